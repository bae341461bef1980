import JvmDerived
import JvmDerived.Pilot.@@N@@Statement
import JvmDerived.Pilot.@@N@@Code
set_option linter.unusedVariables false
set_option linter.unusedSimpArgs false
namespace Jvm.RoadKit
open Sem ClassFile Op Lib Jvm.Stand Jvm.Free Jvm.LawKit
section New
variable {p : Program} {l : Launch} {e : Env} {R : Room} {s : State} {m : MethodId} {args : Array Value} {below : List Frame} {meth : Method} {c : Code} {T : State} {locs : List Loc} {cells slots : Nat}
theorem retI (X : Stand p l e R s m args below meth c T locs cells slots) (hx : p.tables.exec = Jvm.exec) {pc : Nat} {Ls : Array Slot} {z : Int32} {rest : List Value} (hret : meth.sig.returnType = some .int) (hd : decode c.code pc = .ok (.ireturn, 1)) {fs : List Frame}
    (hl : ∀ (f : JFrame) (acts : List Action), f.method = m → f.locked = none → f.entered = [] → (doReturn e (T.setTop f) acts (some (.int z))).1 = T.setFrames fs) : Steps p.tables e below (T.setTop (mkF m pc Ls (.int z :: rest))) (T.setFrames fs) := by
  have hm' : T.vm.method? m = some meth := X.method'
  have hn : narrow .int (.int z) = .int z := rfl
  show Steps p.tables e below (T.setTop { method := m, pc := pc, locals := Ls, stack := _ :: rest, locked := none }) _
  jvm_step X.here [X.here.top, hx, hd, hm', hret, hn]
  first | (intro acts; rw [hl _ acts rfl rfl rfl]) | rw [hl _ _ rfl rfl rfl]
  exact Steps.refl _
end New
end Jvm.RoadKit
namespace Jvm.OwnRuns
open Jvm Sem ClassFile Op Lib Jvm.Stand Jvm.Free Jvm.LawKit Jvm.RoadKit
/-- from the state T the invocation comes to its end, and there Φ holds -/
def Runs (tb : Tables) (e : Env) (below : List Frame) (Φ : Outcome → State → Prop) (T : State) : Prop := ∃ s₂ o, Steps tb e below T s₂ ∧ s₂.status = .running ∧ Ended s₂ below o ∧ Φ o s₂
abbrev Phi (s : State) (Q : Option Value → Heap → List Loc → Prop) (k n : Nat) (o : Outcome) (U' : State) : Prop := ∃ v L, o = .returned v ∧ Q v U'.heap L ∧ FrameEnd s o U' L k n
theorem Runs.st {tb : Tables} {e : Env} {below : List Frame} {Φ : Outcome → State → Prop} {T T' : State} (h : ∀ t, Steps tb e below T' t → Steps tb e below T t) (r : Runs tb e below Φ T') : Runs tb e below Φ T := by
  obtain ⟨a, o, h1, h2⟩ := r
  exact ⟨a, o, h a h1, h2⟩
theorem Runs.tr {tb : Tables} {e : Env} {below : List Frame} {Φ : Outcome → State → Prop} {T T' : State} (h : Steps tb e below T T') (r : Runs tb e below Φ T') : Runs tb e below Φ T := Runs.st (fun _ k => h.trans k) r
section Laws
variable {p : Program} {l : Launch} {e : Env} {R : Room} {s : State} {m : MethodId} {args : Array Value} {below : List Frame} {meth : Method} {c : Code} {T : State} {locs : List Loc} {cells slots : Nat}
theorem Runs.ret (X : Stand p l e R s m args below meth c T locs cells slots) (hlk : meth.locks = false) {v : Option Value} (hv : meth.sig.returnType = none → v = none) {Q : Option Value → Heap → List Loc → Prop} {k n : Nat} (hk : cells ≤ k) (hn : slots ≤ n) (hQ : Q v T.heap locs) {T0 : State}
    (hst : ∀ fs : List Frame, (∀ (f : JFrame) (acts : List Action), f.method = m → f.locked = none → f.entered = [] → (doReturn e (T.setTop f) acts v).1 = T.setFrames fs) → Steps p.tables e below T0 (T.setFrames fs)) : Runs p.tables e below (Phi s Q k n) T0 := by
  obtain ⟨fs, hr, hrun, hended, hW, hsame⟩ := X.leave hv hlk
  exact ⟨_, _, hst fs hr, hrun, hended, _, _, rfl, hQ, ⟨_, rfl⟩, hW, hsame.mono hk hn⟩
theorem wider (X : Stand p l e R s m args below meth c T locs cells slots) {c' s' : Nat} (hc : cells ≤ c') (hs : slots ≤ s') : Stand p l e R s m args below meth c T locs c' s' := { X with same := X.same.mono hc hs }
abbrev PhiW (s : State) (Q : Option Value → Heap → List Loc → Prop) (k n : Nat) (o : Outcome) (U' : State) : Prop := ∃ v L, o = .returned v ∧ Q v U'.heap L ∧ ReturnedEndW s o U' L k n
theorem Runs.retW {vm₁ : Vm} (X : Stand p l e R (s.setVm vm₁) m args below meth c T locs cells slots) {n1 : Nat} (hS : s.Since vm₁ n1) (hk1 : n1 ≤ T.heap.size) (hlk : meth.locks = false) {v : Option Value} (hv : meth.sig.returnType = none → v = none) {Q : Option Value → Heap → List Loc → Prop} {k n : Nat} (hk : cells ≤ k) (hn : slots ≤ n) (hQ : Q v T.heap locs) {T0 : State}
    (hst : ∀ fs : List Frame, (∀ (f : JFrame) (acts : List Action), f.method = m → f.locked = none → f.entered = [] → (doReturn e (T.setTop f) acts v).1 = T.setFrames fs) → Steps p.tables e below T0 (T.setFrames fs)) : Runs p.tables e below (PhiW s Q k n) T0 := by
  obtain ⟨fs, hr, hrun, hended, hW⟩ := (wider X hk hn).leaveW hS hk1 hv hlk
  exact ⟨_, _, hst fs hr, hrun, hended, _, _, rfl, hQ, hW⟩
abbrev PhiH (Z : State) (EL : List (String × Nat)) (s : State) (Q : Option Value → Heap → List Loc → Prop) (k n : Nat) (o : Outcome) (U' : State) : Prop := ∃ v L, o = .returned v ∧ Q v U'.heap L ∧ CHr Z EL s.vm s.heap U'.vm U'.heap ∧ ReturnedEndW s o U' L k n
theorem Runs.retH {Z : State} {EL : List (String × Nat)} {vm₁ : Vm} (X : Stand p l e R (s.setVm vm₁) m args below meth c T locs cells slots) {n1 : Nat} (hS : s.Since vm₁ n1) (hk1 : n1 ≤ T.heap.size) (hlk : meth.locks = false) {v : Option Value} (hv : meth.sig.returnType = none → v = none) {Q : Option Value → Heap → List Loc → Prop} {k n : Nat} (hk : cells ≤ k) (hn : slots ≤ n) (hQ : Q v T.heap locs) (hC : CHr Z EL s.vm s.heap T.vm T.heap) {T0 : State}
    (hst : ∀ fs : List Frame, (∀ (f : JFrame) (acts : List Action), f.method = m → f.locked = none → f.entered = [] → (doReturn e (T.setTop f) acts v).1 = T.setFrames fs) → Steps p.tables e below T0 (T.setFrames fs)) : Runs p.tables e below (PhiH Z EL s Q k n) T0 := by
  obtain ⟨fs, hr, hrun, hended, hW⟩ := (wider X hk hn).leaveW hS hk1 hv hlk
  exact ⟨_, _, hst fs hr, hrun, hended, _, _, rfl, hQ, hC, hW⟩
end Laws
section Facts
variable {Z : State} {h h' : Heap} {a : Addr} {C n d : String} {v : Value} {bo : Bool} {ws : List Addr}
theorem Ins_keep (F : Ins Z h a C bo) (K : Keep h h' ws) : Ins Z h' a C bo := by
  obtain ⟨cell, cT, h1, h2, h3⟩ := F
  obtain ⟨c', e1, e2, e3, -⟩ := K.2.2 _ _ h1
  exact ⟨c', cT, e1, h2, by rw [e2, e3]; exact h3⟩
theorem narrow_ref {t : FieldType} {v : Value} (h : v.isRef = true) : narrow t v = v := by rcases ref_cases h with rfl | ⟨_, rfl⟩ <;> cases t <;> rfl
end Facts
end Jvm.OwnRuns
namespace Jvm.Pilot.@@N@@
open Jvm Jvm.ClassFile Sem Op Lib Jvm.Free Jvm.Stand Jvm.LawKit Jvm.RoadKit Bundle Jvm.OwnRuns Jvm.Pilot.@@N@@.Jvm.D
def Q_rmRec (Z : State) (a : Addr)  (h0 : Heap) (n0 : Nat) : Option Value → Heap → List Loc → Prop := (fun v h L => v = none ∧ Fr n0 L ∧ h = h0)
theorem pn_java_lang_Record : plainName "java/lang/Record" = true := by first | (simp [plainName, overriddenIn]; done) | decide +kernel
theorem ef_jdk_30_method_1_R (m : MethodId) (x0 : Addr)  : entryFrame m #[(.ref x0)] 1 = mkF m 0 #[.val (.ref x0)] [] := by first | (simp [entryFrame, mkF, argsToLocals, Value.category]; done) | rfl
theorem d_jdk_30_method_1_0 : decode jdk_30_method_1_code 0 = .ok (.aload_n 0, 1) := by decide +kernel
theorem d_jdk_30_method_1_1 : decode jdk_30_method_1_code 1 = .ok (.invokespecial 1, 3) := by decide +kernel
theorem d_jdk_30_method_1_4 : decode jdk_30_method_1_code 4 = .ok (.return_, 1) := by decide +kernel
set_option maxRecDepth 65536 in
set_option maxHeartbeats 40000000 in
theorem rmRec (l : Launch) (Z : State) (a0 : Array Value) (hw : ∀ d ∈ tables_1, d.before a0 Z = true) (ws : List Jvm.Cond) (a : Addr)  (h0 : Heap) (n0 : Nat) (Z0 : n0 ≤ h0.size)  :
    MetFree l (⟨"java/lang/Record", "<init>", "()V"⟩ : MethodName) (head1 (Jvm.Cond.code (⟨"java/lang/Record", "<init>", "()V"⟩ : MethodName) jdk_30_method_1_code 1 none :: ws) ({ frames := 1, cells := 0, slots := 0, locals := 12 } : Room)) (fun ar_ U => ar_ = #[(.ref a)] ∧ Z.Warmed39 U.vm ∧ U.heap = h0) (fun _ _ _ _ _ => True) (fun _ U o U' => Phi U (Q_rmRec Z a h0 n0) ({ frames := 1, cells := 0, slots := 0, locals := 12 } : Room).cells ({ frames := 1, cells := 0, slots := 0, locals := 12 } : Room).slots o U') := by
  refine MetFree.of_bodySF (plainFor_of_name pn_java_lang_Record) hisR ?_
  intro p e s m args below meth c s₁ Bd hml0 hP hK
  obtain ⟨rfl, hZ, hh⟩ := hP
  have hx := Bd.exec
  have hby := Bd.bytes
  have hlk := Bd.notSynchronized
  have hml : c.maxLocals = 1 := hml0
  have hown : s.vm.findClass "java/lang/Record" = some m.cls := findClass_of_methodNamed Bd.named
  have hown0 := hown
  have hnm := (name_of_methodNamed Bd.named Bd.method).1
  have hret := Bd.returns
  have X0 : Stand p l e ({ frames := 1, cells := 0, slots := 0, locals := 12 } : Room) s m #[(.ref a)] below meth c s₁ [] 0 0 := Stand.of_body Bd
  have e0 : s₁.heap = h0 := by rw [← hh, Bd.state]; rfl
  have N0 := Fr.nil n0
  have sz := Z0
  have K := Keep.refl h0 []
  show Runs p.tables e below (Phi s (Q_rmRec Z a h0 n0) ({ frames := 1, cells := 0, slots := 0, locals := 12 } : Room).cells ({ frames := 1, cells := 0, slots := 0, locals := 12 } : Room).slots) _
  refine Runs.st (fun t' k' => castTop (ef_jdk_30_method_1_R m a ) k') ?_
  show Runs p.tables e below _ (s₁.setTop (mkF m 0 #[.val (.ref a)] []))
  refine Runs.st (fun t' k' => XS.aloadN X0.here hx rfl (hb hby d_jdk_30_method_1_0) rfl rfl k') ?_
  show Runs p.tables e below _ (s₁.setTop (mkF m 1 #[.val (.ref a)] [(.ref a)]))
  obtain ⟨T1_, X1_, e1_, st1_⟩ := initO X0 hx hZ hown (hw _ (List.mem_of_getElem? (i := 16) rfl)) (hw _ (List.mem_of_getElem? (i := 17) rfl)) (hw _ (List.mem_of_getElem? (i := 18) rfl)) e0 (g := (mkF m 1 #[.val (.ref a)] [(.ref a)])) rfl (by rw [hml]; rfl) rfl (hb hby d_jdk_30_method_1_1) (by decide) (W := 0) (by show 2 * 0 + _ ≤ _; exact Nat.le_of_eq rfl) (by decide)
  refine Runs.st (st1_) ?_
  show Runs p.tables e below _ (T1_.setTop (mkF m 4 #[.val (.ref a)] []))
  refine Runs.ret X1_ hlk (v := none) (fun _ => rfl) (by decide) (by decide) ?_ (fun fs hr => X1_.returnOut hx hret (hb hby d_jdk_30_method_1_4) hr)
  try rw [e1_]
  exact ⟨rfl, N0, rfl⟩
def Q_rmVar (Z : State) (a : Addr) (x1 : Int32)  (h0 : Heap) (n0 : Nat) : Option Value → Heap → List Loc → Prop := (fun v h L => v = none ∧ Fr n0 L ∧ Keep h0 h [a] ∧ Exa Z h a "com/example/covaria/covaria/Formula$Variable" ∧ Fld Z h a "com/example/covaria/covaria/Formula$Variable" "variable" "I" (.int x1))
theorem pn_com_example_covaria_covaria_Formula_Variable : plainName "com/example/covaria/covaria/Formula$Variable" = true := by first | (simp [plainName, overriddenIn]; done) | decide +kernel
theorem ef_prog_13_method_1_RI (m : MethodId) (x0 : Addr) (x1 : Int32)  : entryFrame m #[(.ref x0), (.int x1)] 2 = mkF m 0 #[.val (.ref x0), .val (.int x1)] [] := by first | (simp [entryFrame, mkF, argsToLocals, Value.category]; done) | rfl
theorem d_prog_13_method_1_0 : decode prog_13_method_1_code 0 = .ok (.aload_n 0, 1) := by decide +kernel
theorem pd__28_29V : parseMethodDescriptor "()V" = some ⟨[], none⟩ := by decide +kernel
theorem d_prog_13_method_1_1 : decode prog_13_method_1_code 1 = .ok (.invokespecial 1, 3) := by decide +kernel
theorem d_prog_13_method_1_4 : decode prog_13_method_1_code 4 = .ok (.aload_n 0, 1) := by decide +kernel
theorem d_prog_13_method_1_5 : decode prog_13_method_1_code 5 = .ok (.iload_n 1, 1) := by decide +kernel
theorem d_prog_13_method_1_6 : decode prog_13_method_1_code 6 = .ok (.putfield 7, 3) := by decide +kernel
theorem d_prog_13_method_1_9 : decode prog_13_method_1_code 9 = .ok (.return_, 1) := by decide +kernel
set_option maxRecDepth 65536 in
set_option maxHeartbeats 40000000 in
theorem rmVar (l : Launch) (Z : State) (a0 : Array Value) (hw : ∀ d ∈ tables_1, d.before a0 Z = true) (ws : List Jvm.Cond) (a : Addr) (x1 : Int32)  (h0 : Heap) (n0 : Nat) (Z0 : n0 ≤ h0.size) (E_a : Exa Z h0 a "com/example/covaria/covaria/Formula$Variable") (F1 : Fld Z h0 a "com/example/covaria/covaria/Formula$Variable" "variable" "I" (.int (0 : Int32))) (g_a : n0 ≤ a) :
    MetFree l (⟨"com/example/covaria/covaria/Formula$Variable", "<init>", "(I)V"⟩ : MethodName) (head1 (Jvm.Cond.code (⟨"com/example/covaria/covaria/Formula$Variable", "<init>", "(I)V"⟩ : MethodName) prog_13_method_1_code 2 none :: ws) ({ frames := 2, cells := 0, slots := 0, locals := 24 } : Room)) (fun ar_ U => ar_ = #[(.ref a), (.int x1)] ∧ Z.Warmed39 U.vm ∧ U.heap = h0) (fun _ _ _ _ _ => True) (fun _ U o U' => Phi U (Q_rmVar Z a x1 h0 n0) ({ frames := 2, cells := 0, slots := 0, locals := 24 } : Room).cells ({ frames := 2, cells := 0, slots := 0, locals := 24 } : Room).slots o U') := by
  refine MetFree.of_bodySF (plainFor_of_name pn_com_example_covaria_covaria_Formula_Variable) hisR ?_
  intro p e s m args below meth c s₁ Bd hml0 hP hK
  obtain ⟨rfl, hZ, hh⟩ := hP
  have hx := Bd.exec
  have hby := Bd.bytes
  have hlk := Bd.notSynchronized
  have hml : c.maxLocals = 2 := hml0
  have hown : s.vm.findClass "com/example/covaria/covaria/Formula$Variable" = some m.cls := findClass_of_methodNamed Bd.named
  have hown0 := hown
  have hnm := (name_of_methodNamed Bd.named Bd.method).1
  have hret := Bd.returns
  have X0 : Stand p l e ({ frames := 2, cells := 0, slots := 0, locals := 24 } : Room) s m #[(.ref a), (.int x1)] below meth c s₁ [] 0 0 := Stand.of_body Bd
  have e0 : s₁.heap = h0 := by rw [← hh, Bd.state]; rfl
  have N0 := Fr.nil n0
  have sz := Z0
  have K := Keep.refl h0 [a]
  show Runs p.tables e below (Phi s (Q_rmVar Z a x1 h0 n0) ({ frames := 2, cells := 0, slots := 0, locals := 24 } : Room).cells ({ frames := 2, cells := 0, slots := 0, locals := 24 } : Room).slots) _
  refine Runs.st (fun t' k' => castTop (ef_prog_13_method_1_RI m a x1 ) k') ?_
  show Runs p.tables e below _ (s₁.setTop (mkF m 0 #[.val (.ref a), .val (.int x1)] []))
  refine Runs.st (fun t' k' => XS.aloadN X0.here hx rfl (hb hby d_prog_13_method_1_0) rfl rfl k') ?_
  show Runs p.tables e below _ (s₁.setTop (mkF m 1 #[.val (.ref a), .val (.int x1)] [(.ref a)]))
  obtain ⟨_, _, ⟨T1_, L1_, k1_, n1_⟩, -, X1_, ⟨Lc1_, hQ1_, l1_, y1_, z1_⟩, st1_⟩ := X0.specialBack hx (y := (⟨"java/lang/Record", "<init>", "()V"⟩ : MethodName)) rfl hown (mvT hZ (hw _ (List.mem_of_getElem? (i := 11) rfl))) (mvT hZ (hw _ (List.mem_of_getElem? (i := 12) rfl))) (mvT hZ (hw _ (List.mem_of_getElem? (i := 15) rfl))) (by decide) (backOf (W := 0) (rmRec l Z a0 hw [] a h0 n0 sz) hZ (hw _ (List.mem_of_getElem? (i := 15) rfl)) (hw _ (List.mem_of_getElem? (i := 14) rfl)) (by decide) (by decide)) (g := (mkF m 1 #[.val (.ref a), .val (.int x1)] [(.ref a)])) rfl (by rw [hml]; rfl) (Steps.refl _) (a := a) (argsL := []) (rest := []) (lenOf pd__28_29V rfl) rfl (by show 2 * 0 + _ ≤ _; exact Nat.le_of_eq rfl) (hb hby d_prog_13_method_1_1) (fun _ _ => ⟨rfl, e0, (by decide : 0 + 0 ≤ _), (by decide : 0 + 0 ≤ _)⟩)
  dsimp only [Pt.U, Pt.locs, Pt.cells, Pt.slots] at X1_ l1_ y1_ z1_ st1_ hQ1_
  subst l1_ y1_ z1_
  obtain ⟨rfl, N1_q, e1_⟩ := hQ1_
  have N1_ := Fr.app N0 N1_q
  refine Runs.tr st1_ ?_
  replace X1_ := wider X1_ (c' := 0) (s' := 0) (by decide) (by decide)
  show Runs p.tables e below _ (T1_.setTop (mkF m 4 #[.val (.ref a), .val (.int x1)] []))
  refine Runs.st (fun t' k' => XS.aloadN X1_.here hx rfl (hb hby d_prog_13_method_1_4) rfl rfl k') ?_
  show Runs p.tables e below _ (T1_.setTop (mkF m 5 #[.val (.ref a), .val (.int x1)] [(.ref a)]))
  refine Runs.st (fun t' k' => XS.iloadN X1_.here hx rfl (hb hby d_prog_13_method_1_5) rfl k') ?_
  show Runs p.tables e below _ (T1_.setTop (mkF m 6 #[.val (.ref a), .val (.int x1)] [(.int x1), (.ref a)]))
  obtain ⟨T2_, h2_, X2_, e2_, W2_, st2_⟩ := putF X1_ hx hZ hown (host := "") (Or.inl (hw _ (List.mem_of_getElem? (i := 19) rfl))) Via.refl e1_ F1 E_a (Or.inr ⟨(hw _ (List.mem_of_getElem? (i := 20) rfl)), rfl, hnm⟩) (hw _ (List.mem_of_getElem? (i := 6) rfl)) (ty := .int) (by decide) rfl rfl (g := (mkF m 6 #[.val (.ref a), .val (.int x1)] [(.int x1), (.ref a)])) rfl rfl (hb hby d_prog_13_method_1_6)
  refine Runs.st (st2_) ?_
  replace F1 := F1.same W2_
  replace E_a := Jvm.RoadKit.Exa.wr W2_ E_a
  replace sz := Nat.le_trans sz (Keep.of_wr W2_).1
  have N2_ := Fr.snoc X2_ N1_ g_a
  replace K := K.wr W2_ (Or.inl (List.mem_of_getElem? (i := 0) rfl))
  show Runs p.tables e below _ (T2_.setTop (mkF m 9 #[.val (.ref a), .val (.int x1)] []))
  refine Runs.ret X2_ hlk (v := none) (fun _ => rfl) (by decide) (by decide) ?_ (fun fs hr => X2_.returnOut hx hret (hb hby d_prog_13_method_1_9) hr)
  try rw [e2_]
  exact ⟨rfl, N2_, K, E_a, F1⟩
def Q_rmNot (Z : State) (a : Addr) (f : Addr)  (h0 : Heap) (n0 : Nat) : Option Value → Heap → List Loc → Prop := (fun v h L => v = none ∧ Fr n0 L ∧ Keep h0 h [a] ∧ Exa Z h a "com/example/covaria/covaria/Formula$Not" ∧ Fld Z h a "com/example/covaria/covaria/Formula$Not" "operand" "Lcom/example/covaria/covaria/Formula;" (.ref f))
theorem pn_com_example_covaria_covaria_Formula_Not : plainName "com/example/covaria/covaria/Formula$Not" = true := by first | (simp [plainName, overriddenIn]; done) | decide +kernel
theorem ef_prog_11_method_1_RR (m : MethodId) (x0 : Addr) (x1 : Addr)  : entryFrame m #[(.ref x0), (.ref x1)] 2 = mkF m 0 #[.val (.ref x0), .val (.ref x1)] [] := by first | (simp [entryFrame, mkF, argsToLocals, Value.category]; done) | rfl
theorem d_prog_11_method_1_0 : decode prog_11_method_1_code 0 = .ok (.aload_n 0, 1) := by decide +kernel
theorem d_prog_11_method_1_1 : decode prog_11_method_1_code 1 = .ok (.invokespecial 1, 3) := by decide +kernel
theorem d_prog_11_method_1_4 : decode prog_11_method_1_code 4 = .ok (.aload_n 0, 1) := by decide +kernel
theorem d_prog_11_method_1_5 : decode prog_11_method_1_code 5 = .ok (.aload_n 1, 1) := by decide +kernel
theorem d_prog_11_method_1_6 : decode prog_11_method_1_code 6 = .ok (.putfield 7, 3) := by decide +kernel
theorem d_prog_11_method_1_9 : decode prog_11_method_1_code 9 = .ok (.return_, 1) := by decide +kernel
set_option maxRecDepth 65536 in
set_option maxHeartbeats 40000000 in
theorem rmNot (l : Launch) (Z : State) (a0 : Array Value) (hw : ∀ d ∈ tables_1, d.before a0 Z = true) (ws : List Jvm.Cond) (a : Addr) (f : Addr)  (h0 : Heap) (n0 : Nat) (Z0 : n0 ≤ h0.size) (E_a : Exa Z h0 a "com/example/covaria/covaria/Formula$Not") (F1 : Fld Z h0 a "com/example/covaria/covaria/Formula$Not" "operand" "Lcom/example/covaria/covaria/Formula;" .null) (g_a : n0 ≤ a) :
    MetFree l (⟨"com/example/covaria/covaria/Formula$Not", "<init>", "(Lcom/example/covaria/covaria/Formula;)V"⟩ : MethodName) (head1 (Jvm.Cond.code (⟨"com/example/covaria/covaria/Formula$Not", "<init>", "(Lcom/example/covaria/covaria/Formula;)V"⟩ : MethodName) prog_11_method_1_code 2 none :: ws) ({ frames := 2, cells := 0, slots := 0, locals := 24 } : Room)) (fun ar_ U => ar_ = #[(.ref a), (.ref f)] ∧ Z.Warmed39 U.vm ∧ U.heap = h0) (fun _ _ _ _ _ => True) (fun _ U o U' => Phi U (Q_rmNot Z a f h0 n0) ({ frames := 2, cells := 0, slots := 0, locals := 24 } : Room).cells ({ frames := 2, cells := 0, slots := 0, locals := 24 } : Room).slots o U') := by
  refine MetFree.of_bodySF (plainFor_of_name pn_com_example_covaria_covaria_Formula_Not) hisR ?_
  intro p e s m args below meth c s₁ Bd hml0 hP hK
  obtain ⟨rfl, hZ, hh⟩ := hP
  have hx := Bd.exec
  have hby := Bd.bytes
  have hlk := Bd.notSynchronized
  have hml : c.maxLocals = 2 := hml0
  have hown : s.vm.findClass "com/example/covaria/covaria/Formula$Not" = some m.cls := findClass_of_methodNamed Bd.named
  have hown0 := hown
  have hnm := (name_of_methodNamed Bd.named Bd.method).1
  have hret := Bd.returns
  have X0 : Stand p l e ({ frames := 2, cells := 0, slots := 0, locals := 24 } : Room) s m #[(.ref a), (.ref f)] below meth c s₁ [] 0 0 := Stand.of_body Bd
  have e0 : s₁.heap = h0 := by rw [← hh, Bd.state]; rfl
  have N0 := Fr.nil n0
  have sz := Z0
  have K := Keep.refl h0 [a]
  show Runs p.tables e below (Phi s (Q_rmNot Z a f h0 n0) ({ frames := 2, cells := 0, slots := 0, locals := 24 } : Room).cells ({ frames := 2, cells := 0, slots := 0, locals := 24 } : Room).slots) _
  refine Runs.st (fun t' k' => castTop (ef_prog_11_method_1_RR m a f ) k') ?_
  show Runs p.tables e below _ (s₁.setTop (mkF m 0 #[.val (.ref a), .val (.ref f)] []))
  refine Runs.st (fun t' k' => XS.aloadN X0.here hx rfl (hb hby d_prog_11_method_1_0) rfl rfl k') ?_
  show Runs p.tables e below _ (s₁.setTop (mkF m 1 #[.val (.ref a), .val (.ref f)] [(.ref a)]))
  obtain ⟨_, _, ⟨T1_, L1_, k1_, n1_⟩, -, X1_, ⟨Lc1_, hQ1_, l1_, y1_, z1_⟩, st1_⟩ := X0.specialBack hx (y := (⟨"java/lang/Record", "<init>", "()V"⟩ : MethodName)) rfl hown (mvT hZ (hw _ (List.mem_of_getElem? (i := 34) rfl))) (mvT hZ (hw _ (List.mem_of_getElem? (i := 12) rfl))) (mvT hZ (hw _ (List.mem_of_getElem? (i := 15) rfl))) (by decide) (backOf (W := 0) (rmRec l Z a0 hw [] a h0 n0 sz) hZ (hw _ (List.mem_of_getElem? (i := 15) rfl)) (hw _ (List.mem_of_getElem? (i := 14) rfl)) (by decide) (by decide)) (g := (mkF m 1 #[.val (.ref a), .val (.ref f)] [(.ref a)])) rfl (by rw [hml]; rfl) (Steps.refl _) (a := a) (argsL := []) (rest := []) (lenOf pd__28_29V rfl) rfl (by show 2 * 0 + _ ≤ _; exact Nat.le_of_eq rfl) (hb hby d_prog_11_method_1_1) (fun _ _ => ⟨rfl, e0, (by decide : 0 + 0 ≤ _), (by decide : 0 + 0 ≤ _)⟩)
  dsimp only [Pt.U, Pt.locs, Pt.cells, Pt.slots] at X1_ l1_ y1_ z1_ st1_ hQ1_
  subst l1_ y1_ z1_
  obtain ⟨rfl, N1_q, e1_⟩ := hQ1_
  have N1_ := Fr.app N0 N1_q
  refine Runs.tr st1_ ?_
  replace X1_ := wider X1_ (c' := 0) (s' := 0) (by decide) (by decide)
  show Runs p.tables e below _ (T1_.setTop (mkF m 4 #[.val (.ref a), .val (.ref f)] []))
  refine Runs.st (fun t' k' => XS.aloadN X1_.here hx rfl (hb hby d_prog_11_method_1_4) rfl rfl k') ?_
  show Runs p.tables e below _ (T1_.setTop (mkF m 5 #[.val (.ref a), .val (.ref f)] [(.ref a)]))
  refine Runs.st (fun t' k' => XS.aloadN X1_.here hx rfl (hb hby d_prog_11_method_1_5) rfl rfl k') ?_
  show Runs p.tables e below _ (T1_.setTop (mkF m 6 #[.val (.ref a), .val (.ref f)] [(.ref f), (.ref a)]))
  obtain ⟨T2_, h2_, X2_, e2_, W2_, st2_⟩ := putF X1_ hx hZ hown (host := "") (Or.inl (hw _ (List.mem_of_getElem? (i := 35) rfl))) Via.refl e1_ F1 E_a (Or.inr ⟨(hw _ (List.mem_of_getElem? (i := 36) rfl)), rfl, hnm⟩) (hw _ (List.mem_of_getElem? (i := 29) rfl)) (ty := (.object "com/example/covaria/covaria/Formula")) (by decide) rfl rfl (g := (mkF m 6 #[.val (.ref a), .val (.ref f)] [(.ref f), (.ref a)])) rfl rfl (hb hby d_prog_11_method_1_6)
  refine Runs.st (st2_) ?_
  replace F1 := F1.same W2_
  replace E_a := Jvm.RoadKit.Exa.wr W2_ E_a
  replace sz := Nat.le_trans sz (Keep.of_wr W2_).1
  have N2_ := Fr.snoc X2_ N1_ g_a
  replace K := K.wr W2_ (Or.inl (List.mem_of_getElem? (i := 0) rfl))
  show Runs p.tables e below _ (T2_.setTop (mkF m 9 #[.val (.ref a), .val (.ref f)] []))
  refine Runs.ret X2_ hlk (v := none) (fun _ => rfl) (by decide) (by decide) ?_ (fun fs hr => X2_.returnOut hx hret (hb hby d_prog_11_method_1_9) hr)
  try rw [e2_]
  exact ⟨rfl, N2_, K, E_a, F1⟩
def Q_rmGetV (Z : State) (a : Addr) (r : Int32) (h0 : Heap) (n0 : Nat) : Option Value → Heap → List Loc → Prop := (fun v h L => v = some (.int r) ∧ Fr n0 L ∧ h = h0)
theorem ef_prog_13_method_5_R (m : MethodId) (x0 : Addr)  : entryFrame m #[(.ref x0)] 1 = mkF m 0 #[.val (.ref x0)] [] := by first | (simp [entryFrame, mkF, argsToLocals, Value.category]; done) | rfl
theorem d_prog_13_method_5_0 : decode prog_13_method_5_code 0 = .ok (.aload_n 0, 1) := by decide +kernel
theorem d_prog_13_method_5_1 : decode prog_13_method_5_code 1 = .ok (.getfield 7, 3) := by decide +kernel
theorem d_prog_13_method_5_4 : decode prog_13_method_5_code 4 = .ok (.ireturn, 1) := by decide +kernel
set_option maxRecDepth 65536 in
set_option maxHeartbeats 40000000 in
theorem rmGetV (l : Launch) (Z : State) (a0 : Array Value) (hw : ∀ d ∈ tables_1, d.before a0 Z = true) (ws : List Jvm.Cond) (a : Addr) (r : Int32) (h0 : Heap) (n0 : Nat) (Z0 : n0 ≤ h0.size) (F1 : Fld Z h0 a "com/example/covaria/covaria/Formula$Variable" "variable" "I" (.int r)) :
    MetFree l (⟨"com/example/covaria/covaria/Formula$Variable", "variable", "()I"⟩ : MethodName) (head1 (Jvm.Cond.code (⟨"com/example/covaria/covaria/Formula$Variable", "variable", "()I"⟩ : MethodName) prog_13_method_5_code 1 (some .int) :: ws) ({ frames := 0, cells := 0, slots := 0, locals := 0 } : Room)) (fun ar_ U => ar_ = #[(.ref a)] ∧ Z.Warmed39 U.vm ∧ U.heap = h0) (fun _ _ _ _ _ => True) (fun _ U o U' => Phi U (Q_rmGetV Z a r h0 n0) ({ frames := 0, cells := 0, slots := 0, locals := 0 } : Room).cells ({ frames := 0, cells := 0, slots := 0, locals := 0 } : Room).slots o U') := by
  refine MetFree.of_bodySF (plainFor_of_name pn_com_example_covaria_covaria_Formula_Variable) hisR ?_
  intro p e s m args below meth c s₁ Bd hml0 hP hK
  obtain ⟨rfl, hZ, hh⟩ := hP
  have hx := Bd.exec
  have hby := Bd.bytes
  have hlk := Bd.notSynchronized
  have hml : c.maxLocals = 1 := hml0
  have hown : s.vm.findClass "com/example/covaria/covaria/Formula$Variable" = some m.cls := findClass_of_methodNamed Bd.named
  have hown0 := hown
  have hnm := (name_of_methodNamed Bd.named Bd.method).1
  have hret := Bd.returns
  have X0 : Stand p l e ({ frames := 0, cells := 0, slots := 0, locals := 0 } : Room) s m #[(.ref a)] below meth c s₁ [] 0 0 := Stand.of_body Bd
  have e0 : s₁.heap = h0 := by rw [← hh, Bd.state]; rfl
  have N0 := Fr.nil n0
  have sz := Z0
  have K := Keep.refl h0 []
  show Runs p.tables e below (Phi s (Q_rmGetV Z a r h0 n0) ({ frames := 0, cells := 0, slots := 0, locals := 0 } : Room).cells ({ frames := 0, cells := 0, slots := 0, locals := 0 } : Room).slots) _
  refine Runs.st (fun t' k' => castTop (ef_prog_13_method_5_R m a ) k') ?_
  show Runs p.tables e below _ (s₁.setTop (mkF m 0 #[.val (.ref a)] []))
  refine Runs.st (fun t' k' => XS.aloadN X0.here hx rfl (hb hby d_prog_13_method_5_0) rfl rfl k') ?_
  show Runs p.tables e below _ (s₁.setTop (mkF m 1 #[.val (.ref a)] [(.ref a)]))
  obtain ⟨T1_, X1_, e1_, st1_⟩ := getF X0 hx hZ hown (host := "") (Or.inl (hw _ (List.mem_of_getElem? (i := 19) rfl))) Via.refl e0 F1 (g := (mkF m 1 #[.val (.ref a)] [(.ref a)])) rfl rfl (hb hby d_prog_13_method_5_1)
  refine Runs.st (st1_) ?_
  show Runs p.tables e below _ (T1_.setTop (mkF m 4 #[.val (.ref a)] [(.int r)]))
  refine Runs.ret X1_ hlk (v := (some (.int r))) (fun h => by rw [hret] at h; cases h) (by decide) (by decide) ?_ (fun fs hr => retI X1_ hx hret (hb hby d_prog_13_method_5_4) hr)
  try rw [e1_]
  exact ⟨rfl, N0, rfl⟩
def Q_rmGetO (Z : State) (a : Addr) (r : Addr) (h0 : Heap) (n0 : Nat) : Option Value → Heap → List Loc → Prop := (fun v h L => v = some (.ref r) ∧ Fr n0 L ∧ h = h0)
theorem ef_prog_11_method_5_R (m : MethodId) (x0 : Addr)  : entryFrame m #[(.ref x0)] 1 = mkF m 0 #[.val (.ref x0)] [] := by first | (simp [entryFrame, mkF, argsToLocals, Value.category]; done) | rfl
theorem d_prog_11_method_5_0 : decode prog_11_method_5_code 0 = .ok (.aload_n 0, 1) := by decide +kernel
theorem d_prog_11_method_5_1 : decode prog_11_method_5_code 1 = .ok (.getfield 7, 3) := by decide +kernel
theorem d_prog_11_method_5_4 : decode prog_11_method_5_code 4 = .ok (.areturn, 1) := by decide +kernel
set_option maxRecDepth 65536 in
set_option maxHeartbeats 40000000 in
theorem rmGetO (l : Launch) (Z : State) (a0 : Array Value) (hw : ∀ d ∈ tables_1, d.before a0 Z = true) (ws : List Jvm.Cond) (a : Addr) (r : Addr) (h0 : Heap) (n0 : Nat) (Z0 : n0 ≤ h0.size) (F1 : Fld Z h0 a "com/example/covaria/covaria/Formula$Not" "operand" "Lcom/example/covaria/covaria/Formula;" (.ref r)) :
    MetFree l (⟨"com/example/covaria/covaria/Formula$Not", "operand", "()Lcom/example/covaria/covaria/Formula;"⟩ : MethodName) (head1 (Jvm.Cond.code (⟨"com/example/covaria/covaria/Formula$Not", "operand", "()Lcom/example/covaria/covaria/Formula;"⟩ : MethodName) prog_11_method_5_code 1 (some (.object "com/example/covaria/covaria/Formula")) :: ws) ({ frames := 0, cells := 0, slots := 0, locals := 0 } : Room)) (fun ar_ U => ar_ = #[(.ref a)] ∧ Z.Warmed39 U.vm ∧ U.heap = h0) (fun _ _ _ _ _ => True) (fun _ U o U' => Phi U (Q_rmGetO Z a r h0 n0) ({ frames := 0, cells := 0, slots := 0, locals := 0 } : Room).cells ({ frames := 0, cells := 0, slots := 0, locals := 0 } : Room).slots o U') := by
  refine MetFree.of_bodySF (plainFor_of_name pn_com_example_covaria_covaria_Formula_Not) hisR ?_
  intro p e s m args below meth c s₁ Bd hml0 hP hK
  obtain ⟨rfl, hZ, hh⟩ := hP
  have hx := Bd.exec
  have hby := Bd.bytes
  have hlk := Bd.notSynchronized
  have hml : c.maxLocals = 1 := hml0
  have hown : s.vm.findClass "com/example/covaria/covaria/Formula$Not" = some m.cls := findClass_of_methodNamed Bd.named
  have hown0 := hown
  have hnm := (name_of_methodNamed Bd.named Bd.method).1
  have hret := Bd.returns
  have X0 : Stand p l e ({ frames := 0, cells := 0, slots := 0, locals := 0 } : Room) s m #[(.ref a)] below meth c s₁ [] 0 0 := Stand.of_body Bd
  have e0 : s₁.heap = h0 := by rw [← hh, Bd.state]; rfl
  have N0 := Fr.nil n0
  have sz := Z0
  have K := Keep.refl h0 []
  show Runs p.tables e below (Phi s (Q_rmGetO Z a r h0 n0) ({ frames := 0, cells := 0, slots := 0, locals := 0 } : Room).cells ({ frames := 0, cells := 0, slots := 0, locals := 0 } : Room).slots) _
  refine Runs.st (fun t' k' => castTop (ef_prog_11_method_5_R m a ) k') ?_
  show Runs p.tables e below _ (s₁.setTop (mkF m 0 #[.val (.ref a)] []))
  refine Runs.st (fun t' k' => XS.aloadN X0.here hx rfl (hb hby d_prog_11_method_5_0) rfl rfl k') ?_
  show Runs p.tables e below _ (s₁.setTop (mkF m 1 #[.val (.ref a)] [(.ref a)]))
  obtain ⟨T1_, X1_, e1_, st1_⟩ := getF X0 hx hZ hown (host := "") (Or.inl (hw _ (List.mem_of_getElem? (i := 35) rfl))) Via.refl e0 F1 (g := (mkF m 1 #[.val (.ref a)] [(.ref a)])) rfl rfl (hb hby d_prog_11_method_5_1)
  refine Runs.st (st1_) ?_
  show Runs p.tables e below _ (T1_.setTop (mkF m 4 #[.val (.ref a)] [(.ref r)]))
  refine Runs.ret X1_ hlk (v := (some (.ref r))) (fun h => by rw [hret] at h; cases h) (by decide) (by decide) ?_ (fun fs hr => retOut X1_ hx hret rfl (Or.inr (Or.inr (Or.inr (Or.inr ⟨rfl, rfl, rfl⟩)))) (hb hby d_prog_11_method_5_4) hr)
  try rw [e1_]
  exact ⟨rfl, N0, rfl⟩
def Q_rmLitP (Z : State) (x1 : Int32)  (h0 : Heap) (n0 : Nat) : Option Value → Heap → List Loc → Prop := (fun v h L => ∃ b, v = some (.ref b) ∧ Fr n0 L ∧ Keep h0 h [] ∧ Exa Z h b "com/example/covaria/covaria/Formula$Variable" ∧ Fld Z h b "com/example/covaria/covaria/Formula$Variable" "variable" "I" (.int x1))
theorem pn_com_example_covaria_covaria_Formula : plainName "com/example/covaria/covaria/Formula" = true := by first | (simp [plainName, overriddenIn]; done) | decide +kernel
theorem ef_prog_8_method_1_I (m : MethodId) (x0 : Int32)  : entryFrame m #[(.int x0)] 1 = mkF m 0 #[.val (.int x0)] [] := by first | (simp [entryFrame, mkF, argsToLocals, Value.category]; done) | rfl
theorem d_prog_8_method_1_0 : decode prog_8_method_1_code 0 = .ok (.iload_n 0, 1) := by decide +kernel
theorem d_prog_8_method_1_1 : decode prog_8_method_1_code 1 = .ok (.ifCond .le 14, 3) := by decide +kernel
theorem d_prog_8_method_1_4 : decode prog_8_method_1_code 4 = .ok (.new 1, 3) := by decide +kernel
theorem d_prog_8_method_1_7 : decode prog_8_method_1_code 7 = .ok (.dup, 1) := by decide +kernel
theorem d_prog_8_method_1_8 : decode prog_8_method_1_code 8 = .ok (.iload_n 0, 1) := by decide +kernel
theorem pd__28I_29V : parseMethodDescriptor "(I)V" = some ⟨[.int], none⟩ := by decide +kernel
theorem d_prog_8_method_1_9 : decode prog_8_method_1_code 9 = .ok (.invokespecial 3, 3) := by decide +kernel
theorem d_prog_8_method_1_12 : decode prog_8_method_1_code 12 = .ok (.goto 19, 3) := by decide +kernel
theorem d_prog_8_method_1_31 : decode prog_8_method_1_code 31 = .ok (.areturn, 1) := by decide +kernel
set_option maxRecDepth 65536 in
set_option maxHeartbeats 40000000 in
theorem rmLitP (l : Launch) (Z : State) (a0 : Array Value) (hw : ∀ d ∈ tables_1, d.before a0 Z = true) (ws : List Jvm.Cond) (x1 : Int32)  (h0 : Heap) (n0 : Nat) (Z0 : n0 ≤ h0.size) (hp : (0 : Int32) < x1) :
    MetFree l (⟨"com/example/covaria/covaria/Formula", "literal", "(I)Lcom/example/covaria/covaria/Formula;"⟩ : MethodName) (head1 (Jvm.Cond.code (⟨"com/example/covaria/covaria/Formula", "literal", "(I)Lcom/example/covaria/covaria/Formula;"⟩ : MethodName) prog_8_method_1_code 1 (some (.object "com/example/covaria/covaria/Formula")) :: ws) ({ frames := 3, cells := 2, slots := 2, locals := 40 } : Room)) (fun ar_ U => ar_ = #[(.int x1)] ∧ Z.Warmed39 U.vm ∧ U.heap = h0) (fun _ _ _ _ _ => True) (fun _ U o U' => Phi U (Q_rmLitP Z x1 h0 n0) ({ frames := 3, cells := 2, slots := 2, locals := 40 } : Room).cells ({ frames := 3, cells := 2, slots := 2, locals := 40 } : Room).slots o U') := by
  refine MetFree.of_bodySF (plainFor_of_name pn_com_example_covaria_covaria_Formula) hisR ?_
  intro p e s m args below meth c s₁ Bd hml0 hP hK
  obtain ⟨rfl, hZ, hh⟩ := hP
  have hx := Bd.exec
  have hby := Bd.bytes
  have hlk := Bd.notSynchronized
  have hml : c.maxLocals = 1 := hml0
  have hown : s.vm.findClass "com/example/covaria/covaria/Formula" = some m.cls := findClass_of_methodNamed Bd.named
  have hown0 := hown
  have hnm := (name_of_methodNamed Bd.named Bd.method).1
  have hret := Bd.returns
  have X0 : Stand p l e ({ frames := 3, cells := 2, slots := 2, locals := 40 } : Room) s m #[(.int x1)] below meth c s₁ [] 0 0 := Stand.of_body Bd
  have e0 : s₁.heap = h0 := by rw [← hh, Bd.state]; rfl
  have N0 := Fr.nil n0
  have sz := Z0
  have K := Keep.refl h0 []
  show Runs p.tables e below (Phi s (Q_rmLitP Z x1 h0 n0) ({ frames := 3, cells := 2, slots := 2, locals := 40 } : Room).cells ({ frames := 3, cells := 2, slots := 2, locals := 40 } : Room).slots) _
  refine Runs.st (fun t' k' => castTop (ef_prog_8_method_1_I m x1 ) k') ?_
  show Runs p.tables e below _ (s₁.setTop (mkF m 0 #[.val (.int x1)] []))
  refine Runs.st (fun t' k' => XS.iloadN X0.here hx rfl (hb hby d_prog_8_method_1_0) rfl k') ?_
  show Runs p.tables e below _ (s₁.setTop (mkF m 1 #[.val (.int x1)] [(.int x1)]))
  refine Runs.st (fun t' k' => XS.ifNo X0.here hx rfl (hb hby d_prog_8_method_1_1) rfl ((if0 _ _).trans (tlt hp).2.2.2) k') ?_
  show Runs p.tables e below _ (s₁.setTop (mkF m 4 #[.val (.int x1)] []))
  obtain ⟨T1_, h1_, X1_, e1_, E1_, A1_, D1_, -, st1_⟩ := newO X0 hx hZ hown (hw _ (List.mem_of_getElem? (i := 5) rfl)) (hw _ (List.mem_of_getElem? (i := 6) rfl)) (hw _ (List.mem_of_getElem? (i := 7) rfl)) e0 (g := (mkF m 4 #[.val (.int x1)] [])) rfl (hb hby d_prog_8_method_1_4) (by decide) (by decide)
  refine Runs.st (st1_) ?_
  obtain ⟨b1, g1_⟩ : ∃ z, z = h0.size := ⟨_, rfl⟩
  rw [← g1_] at A1_ D1_
  try rw [← g1_]
  have g_b1 : n0 ≤ b1 := Nat.le_trans sz (Nat.le_of_eq g1_.symm)
  have sz_b1 : h0.size ≤ b1 := Nat.le_trans K.1 (Nat.le_of_eq g1_.symm)
  replace sz := Nat.le_trans sz E1_.1
  replace K := K.ext E1_
  have E_b1 := A1_
  have F_b1_variable : Fld Z h1_ b1 "com/example/covaria/covaria/Formula$Variable" "variable" "I" (.int (0 : Int32)) := D1_ (Or.inr (hw _ (List.mem_of_getElem? (i := 20) rfl))) (ty := .int) (by decide)
  show Runs p.tables e below _ (T1_.setTop (mkF m 7 #[.val (.int x1)] [(.ref b1)]))
  refine Runs.st (fun t' k' => XS.dup X1_.here hx rfl (hb hby d_prog_8_method_1_7) rfl rfl k') ?_
  show Runs p.tables e below _ (T1_.setTop (mkF m 8 #[.val (.int x1)] [(.ref b1), (.ref b1)]))
  refine Runs.st (fun t' k' => XS.iloadN X1_.here hx rfl (hb hby d_prog_8_method_1_8) rfl k') ?_
  show Runs p.tables e below _ (T1_.setTop (mkF m 9 #[.val (.int x1)] [(.int x1), (.ref b1), (.ref b1)]))
  obtain ⟨_, _, ⟨T2_, L2_, k2_, n2_⟩, -, X2_, ⟨Lc2_, hQ2_, l2_, y2_, z2_⟩, st2_⟩ := X1_.specialBack hx (y := (⟨"com/example/covaria/covaria/Formula$Variable", "<init>", "(I)V"⟩ : MethodName)) rfl hown (mvT hZ (hw _ (List.mem_of_getElem? (i := 8) rfl))) (mvT hZ (hw _ (List.mem_of_getElem? (i := 9) rfl))) (mvT hZ (hw _ (List.mem_of_getElem? (i := 10) rfl))) (by decide) (backOf (W := 1) (rmVar l Z a0 hw [] b1 x1 h1_ n0 sz E_b1 F_b1_variable g_b1) hZ (hw _ (List.mem_of_getElem? (i := 10) rfl)) (hw _ (List.mem_of_getElem? (i := 7) rfl)) (by decide) (by decide)) (g := (mkF m 9 #[.val (.int x1)] [(.int x1), (.ref b1), (.ref b1)])) rfl (by rw [hml]; rfl) (Steps.refl _) (a := b1) (argsL := [(.int x1)]) (rest := [(.ref b1)]) (lenOf pd__28I_29V rfl) rfl (by show 2 * 0 + _ ≤ _; exact Nat.le_of_eq rfl) (hb hby d_prog_8_method_1_9) (fun _ _ => ⟨rfl, e1_, (by decide : 1 + 0 ≤ _), (by decide : 1 + 0 ≤ _)⟩)
  dsimp only [Pt.U, Pt.locs, Pt.cells, Pt.slots] at X2_ l2_ y2_ z2_ st2_ hQ2_
  subst l2_ y2_ z2_
  obtain ⟨rfl, N2_q, K2_, E_b1, F_b1_variable⟩ := hQ2_
  have N2_ := Fr.app N0 N2_q
  refine Runs.tr st2_ ?_
  replace X2_ := wider X2_ (c' := 1) (s' := 1) (by decide) (by decide)
  replace sz := Nat.le_trans sz K2_.1
  replace K := K.trans K2_ (allS (Or.inr sz_b1) all0)
  show Runs p.tables e below _ (T2_.setTop (mkF m 12 #[.val (.int x1)] [(.ref b1)]))
  refine Runs.st (fun t' k' => XS.goto X2_.here hx rfl (pc0 := 12) (pc' := 31) rfl (hb hby d_prog_8_method_1_12) (by decide) (by decide) k') ?_
  show Runs p.tables e below _ (T2_.setTop (mkF m 31 #[.val (.int x1)] [(.ref b1)]))
  refine Runs.ret X2_ hlk (v := (some (.ref b1))) (fun h => by rw [hret] at h; cases h) (by decide) (by decide) ?_ (fun fs hr => retOut X2_ hx hret rfl (Or.inr (Or.inr (Or.inr (Or.inr ⟨rfl, rfl, rfl⟩)))) (hb hby d_prog_8_method_1_31) hr)
  exact ⟨b1, rfl, N2_, K, E_b1, F_b1_variable⟩
def Q_rmLitN (Z : State) (x1 : Int32)  (h0 : Heap) (n0 : Nat) : Option Value → Heap → List Loc → Prop := (fun v h L => ∃ b b2, v = some (.ref b) ∧ Fr n0 L ∧ Keep h0 h [] ∧ Exa Z h b "com/example/covaria/covaria/Formula$Not" ∧ Fld Z h b "com/example/covaria/covaria/Formula$Not" "operand" "Lcom/example/covaria/covaria/Formula;" (.ref b2) ∧ Exa Z h b2 "com/example/covaria/covaria/Formula$Variable" ∧ Fld Z h b2 "com/example/covaria/covaria/Formula$Variable" "variable" "I" (.int (-x1)))
theorem d_prog_8_method_1_15 : decode prog_8_method_1_code 15 = .ok (.new 7, 3) := by decide +kernel
theorem d_prog_8_method_1_18 : decode prog_8_method_1_code 18 = .ok (.dup, 1) := by decide +kernel
theorem d_prog_8_method_1_19 : decode prog_8_method_1_code 19 = .ok (.new 1, 3) := by decide +kernel
theorem d_prog_8_method_1_22 : decode prog_8_method_1_code 22 = .ok (.dup, 1) := by decide +kernel
theorem d_prog_8_method_1_23 : decode prog_8_method_1_code 23 = .ok (.iload_n 0, 1) := by decide +kernel
theorem d_prog_8_method_1_24 : decode prog_8_method_1_code 24 = .ok (.ineg, 1) := by decide +kernel
theorem d_prog_8_method_1_25 : decode prog_8_method_1_code 25 = .ok (.invokespecial 3, 3) := by decide +kernel
theorem pd__28Lcom_2fexample_2fcovaria_2fcovaria_2fFormula_3b_29V : parseMethodDescriptor "(Lcom/example/covaria/covaria/Formula;)V" = some ⟨[(.object "com/example/covaria/covaria/Formula")], none⟩ := by decide +kernel
theorem d_prog_8_method_1_28 : decode prog_8_method_1_code 28 = .ok (.invokespecial 9, 3) := by decide +kernel
set_option maxRecDepth 65536 in
set_option maxHeartbeats 40000000 in
theorem rmLitN (l : Launch) (Z : State) (a0 : Array Value) (hw : ∀ d ∈ tables_1, d.before a0 Z = true) (ws : List Jvm.Cond) (x1 : Int32)  (h0 : Heap) (n0 : Nat) (Z0 : n0 ≤ h0.size) (hp : ¬ ((0 : Int32) < x1)) :
    MetFree l (⟨"com/example/covaria/covaria/Formula", "literal", "(I)Lcom/example/covaria/covaria/Formula;"⟩ : MethodName) (head1 (Jvm.Cond.code (⟨"com/example/covaria/covaria/Formula", "literal", "(I)Lcom/example/covaria/covaria/Formula;"⟩ : MethodName) prog_8_method_1_code 1 (some (.object "com/example/covaria/covaria/Formula")) :: ws) ({ frames := 3, cells := 2, slots := 2, locals := 40 } : Room)) (fun ar_ U => ar_ = #[(.int x1)] ∧ Z.Warmed39 U.vm ∧ U.heap = h0) (fun _ _ _ _ _ => True) (fun _ U o U' => Phi U (Q_rmLitN Z x1 h0 n0) ({ frames := 3, cells := 2, slots := 2, locals := 40 } : Room).cells ({ frames := 3, cells := 2, slots := 2, locals := 40 } : Room).slots o U') := by
  refine MetFree.of_bodySF (plainFor_of_name pn_com_example_covaria_covaria_Formula) hisR ?_
  intro p e s m args below meth c s₁ Bd hml0 hP hK
  obtain ⟨rfl, hZ, hh⟩ := hP
  have hx := Bd.exec
  have hby := Bd.bytes
  have hlk := Bd.notSynchronized
  have hml : c.maxLocals = 1 := hml0
  have hown : s.vm.findClass "com/example/covaria/covaria/Formula" = some m.cls := findClass_of_methodNamed Bd.named
  have hown0 := hown
  have hnm := (name_of_methodNamed Bd.named Bd.method).1
  have hret := Bd.returns
  have X0 : Stand p l e ({ frames := 3, cells := 2, slots := 2, locals := 40 } : Room) s m #[(.int x1)] below meth c s₁ [] 0 0 := Stand.of_body Bd
  have e0 : s₁.heap = h0 := by rw [← hh, Bd.state]; rfl
  have N0 := Fr.nil n0
  have sz := Z0
  have K := Keep.refl h0 []
  show Runs p.tables e below (Phi s (Q_rmLitN Z x1 h0 n0) ({ frames := 3, cells := 2, slots := 2, locals := 40 } : Room).cells ({ frames := 3, cells := 2, slots := 2, locals := 40 } : Room).slots) _
  refine Runs.st (fun t' k' => castTop (ef_prog_8_method_1_I m x1 ) k') ?_
  show Runs p.tables e below _ (s₁.setTop (mkF m 0 #[.val (.int x1)] []))
  refine Runs.st (fun t' k' => XS.iloadN X0.here hx rfl (hb hby d_prog_8_method_1_0) rfl k') ?_
  show Runs p.tables e below _ (s₁.setTop (mkF m 1 #[.val (.int x1)] [(.int x1)]))
  refine Runs.st (fun t' k' => XS.ifYes X0.here hx rfl (pc0 := 1) (pc' := 15) rfl (hb hby d_prog_8_method_1_1) rfl ((if0 _ _).trans (flt hp).2.2.2) (by decide) (by decide) k') ?_
  show Runs p.tables e below _ (s₁.setTop (mkF m 15 #[.val (.int x1)] []))
  obtain ⟨T1_, h1_, X1_, e1_, E1_, A1_, D1_, -, st1_⟩ := newO X0 hx hZ hown (hw _ (List.mem_of_getElem? (i := 28) rfl)) (hw _ (List.mem_of_getElem? (i := 29) rfl)) (hw _ (List.mem_of_getElem? (i := 30) rfl)) e0 (g := (mkF m 15 #[.val (.int x1)] [])) rfl (hb hby d_prog_8_method_1_15) (by decide) (by decide)
  refine Runs.st (st1_) ?_
  obtain ⟨b1, g1_⟩ : ∃ z, z = h0.size := ⟨_, rfl⟩
  rw [← g1_] at A1_ D1_
  try rw [← g1_]
  have g_b1 : n0 ≤ b1 := Nat.le_trans sz (Nat.le_of_eq g1_.symm)
  have sz_b1 : h0.size ≤ b1 := Nat.le_trans K.1 (Nat.le_of_eq g1_.symm)
  replace sz := Nat.le_trans sz E1_.1
  replace K := K.ext E1_
  have E_b1 := A1_
  have F_b1_operand : Fld Z h1_ b1 "com/example/covaria/covaria/Formula$Not" "operand" "Lcom/example/covaria/covaria/Formula;" .null := D1_ (Or.inr (hw _ (List.mem_of_getElem? (i := 36) rfl))) (ty := (.object "com/example/covaria/covaria/Formula")) (by decide)
  show Runs p.tables e below _ (T1_.setTop (mkF m 18 #[.val (.int x1)] [(.ref b1)]))
  refine Runs.st (fun t' k' => XS.dup X1_.here hx rfl (hb hby d_prog_8_method_1_18) rfl rfl k') ?_
  show Runs p.tables e below _ (T1_.setTop (mkF m 19 #[.val (.int x1)] [(.ref b1), (.ref b1)]))
  obtain ⟨T2_, h2_, X2_, e2_, E2_, A2_, D2_, -, st2_⟩ := newO X1_ hx hZ hown (hw _ (List.mem_of_getElem? (i := 5) rfl)) (hw _ (List.mem_of_getElem? (i := 6) rfl)) (hw _ (List.mem_of_getElem? (i := 7) rfl)) e1_ (g := (mkF m 19 #[.val (.int x1)] [(.ref b1), (.ref b1)])) rfl (hb hby d_prog_8_method_1_19) (by decide) (by decide)
  refine Runs.st (st2_) ?_
  obtain ⟨b2, g2_⟩ : ∃ z, z = h1_.size := ⟨_, rfl⟩
  rw [← g2_] at A2_ D2_
  try rw [← g2_]
  have g_b2 : n0 ≤ b2 := Nat.le_trans sz (Nat.le_of_eq g2_.symm)
  have sz_b2 : h0.size ≤ b2 := Nat.le_trans K.1 (Nat.le_of_eq g2_.symm)
  have ne_b1_b2 : b1 ≠ b2 := Nat.ne_of_lt (Nat.lt_of_lt_of_le E_b1.lt (Nat.le_of_eq g2_.symm))
  replace E_b1 := E_b1.ext E2_
  replace F_b1_operand := F_b1_operand.ext E2_
  replace sz := Nat.le_trans sz E2_.1
  replace K := K.ext E2_
  have E_b2 := A2_
  have F_b2_variable : Fld Z h2_ b2 "com/example/covaria/covaria/Formula$Variable" "variable" "I" (.int (0 : Int32)) := D2_ (Or.inr (hw _ (List.mem_of_getElem? (i := 20) rfl))) (ty := .int) (by decide)
  show Runs p.tables e below _ (T2_.setTop (mkF m 22 #[.val (.int x1)] [(.ref b2), (.ref b1), (.ref b1)]))
  refine Runs.st (fun t' k' => XS.dup X2_.here hx rfl (hb hby d_prog_8_method_1_22) rfl rfl k') ?_
  show Runs p.tables e below _ (T2_.setTop (mkF m 23 #[.val (.int x1)] [(.ref b2), (.ref b2), (.ref b1), (.ref b1)]))
  refine Runs.st (fun t' k' => XS.iloadN X2_.here hx rfl (hb hby d_prog_8_method_1_23) rfl k') ?_
  show Runs p.tables e below _ (T2_.setTop (mkF m 24 #[.val (.int x1)] [(.int x1), (.ref b2), (.ref b2), (.ref b1), (.ref b1)]))
  refine Runs.st (fun t' k' => XS.ineg X2_.here hx rfl (hb hby d_prog_8_method_1_24) rfl k') ?_
  show Runs p.tables e below _ (T2_.setTop (mkF m 25 #[.val (.int x1)] [(.int (-x1)), (.ref b2), (.ref b2), (.ref b1), (.ref b1)]))
  obtain ⟨_, _, ⟨T3_, L3_, k3_, n3_⟩, -, X3_, ⟨Lc3_, hQ3_, l3_, y3_, z3_⟩, st3_⟩ := X2_.specialBack hx (y := (⟨"com/example/covaria/covaria/Formula$Variable", "<init>", "(I)V"⟩ : MethodName)) rfl hown (mvT hZ (hw _ (List.mem_of_getElem? (i := 8) rfl))) (mvT hZ (hw _ (List.mem_of_getElem? (i := 9) rfl))) (mvT hZ (hw _ (List.mem_of_getElem? (i := 10) rfl))) (by decide) (backOf (W := 3) (rmVar l Z a0 hw [] b2 (-x1) h2_ n0 sz E_b2 F_b2_variable g_b2) hZ (hw _ (List.mem_of_getElem? (i := 10) rfl)) (hw _ (List.mem_of_getElem? (i := 7) rfl)) (by decide) (by decide)) (g := (mkF m 25 #[.val (.int x1)] [(.int (-x1)), (.ref b2), (.ref b2), (.ref b1), (.ref b1)])) rfl (by rw [hml]; rfl) (Steps.refl _) (a := b2) (argsL := [(.int (-x1))]) (rest := [(.ref b2), (.ref b1), (.ref b1)]) (lenOf pd__28I_29V rfl) rfl (by show 2 * 0 + _ ≤ _; exact Nat.le_of_eq rfl) (hb hby d_prog_8_method_1_25) (fun _ _ => ⟨rfl, e2_, (by decide : 2 + 0 ≤ _), (by decide : 2 + 0 ≤ _)⟩)
  dsimp only [Pt.U, Pt.locs, Pt.cells, Pt.slots] at X3_ l3_ y3_ z3_ st3_ hQ3_
  subst l3_ y3_ z3_
  obtain ⟨rfl, N3_q, K3_, E_b2, F_b2_variable⟩ := hQ3_
  have N3_ := Fr.app N0 N3_q
  refine Runs.tr st3_ ?_
  replace X3_ := wider X3_ (c' := 2) (s' := 2) (by decide) (by decide)
  replace E_b1 := E_b1.keep K3_
  replace F_b1_operand := F_b1_operand.keep K3_ (ninS ne_b1_b2 nin0)
  replace sz := Nat.le_trans sz K3_.1
  replace K := K.trans K3_ (allS (Or.inr sz_b2) all0)
  show Runs p.tables e below _ (T3_.setTop (mkF m 28 #[.val (.int x1)] [(.ref b2), (.ref b1), (.ref b1)]))
  obtain ⟨_, _, ⟨T4_, L4_, k4_, n4_⟩, -, X4_, ⟨Lc4_, hQ4_, l4_, y4_, z4_⟩, st4_⟩ := X3_.specialBack hx (y := (⟨"com/example/covaria/covaria/Formula$Not", "<init>", "(Lcom/example/covaria/covaria/Formula;)V"⟩ : MethodName)) rfl hown (mvT hZ (hw _ (List.mem_of_getElem? (i := 31) rfl))) (mvT hZ (hw _ (List.mem_of_getElem? (i := 32) rfl))) (mvT hZ (hw _ (List.mem_of_getElem? (i := 33) rfl))) (by decide) (backOf (W := 1) (rmNot l Z a0 hw [] b1 b2 T3_.heap n0 sz E_b1 F_b1_operand g_b1) hZ (hw _ (List.mem_of_getElem? (i := 33) rfl)) (hw _ (List.mem_of_getElem? (i := 30) rfl)) (by decide) (by decide)) (g := (mkF m 28 #[.val (.int x1)] [(.ref b2), (.ref b1), (.ref b1)])) rfl (by rw [hml]; rfl) (Steps.refl _) (a := b1) (argsL := [(.ref b2)]) (rest := [(.ref b1)]) (lenOf pd__28Lcom_2fexample_2fcovaria_2fcovaria_2fFormula_3b_29V rfl) rfl (by show 2 * 0 + _ ≤ _; exact Nat.le_of_eq rfl) (hb hby d_prog_8_method_1_28) (fun _ _ => ⟨rfl, rfl, (by decide : 2 + 0 ≤ _), (by decide : 2 + 0 ≤ _)⟩)
  dsimp only [Pt.U, Pt.locs, Pt.cells, Pt.slots] at X4_ l4_ y4_ z4_ st4_ hQ4_
  subst l4_ y4_ z4_
  obtain ⟨rfl, N4_q, K4_, E_b1, F_b1_operand⟩ := hQ4_
  have N4_ := Fr.app N3_ N4_q
  refine Runs.tr st4_ ?_
  replace X4_ := wider X4_ (c' := 2) (s' := 2) (by decide) (by decide)
  replace E_b2 := E_b2.keep K4_
  replace F_b2_variable := F_b2_variable.keep K4_ (ninS (Ne.symm ne_b1_b2) nin0)
  replace sz := Nat.le_trans sz K4_.1
  replace K := K.trans K4_ (allS (Or.inr sz_b1) all0)
  show Runs p.tables e below _ (T4_.setTop (mkF m 31 #[.val (.int x1)] [(.ref b1)]))
  refine Runs.ret X4_ hlk (v := (some (.ref b1))) (fun h => by rw [hret] at h; cases h) (by decide) (by decide) ?_ (fun fs hr => retOut X4_ hx hret rfl (Or.inr (Or.inr (Or.inr (Or.inr ⟨rfl, rfl, rfl⟩)))) (hb hby d_prog_8_method_1_31) hr)
  exact ⟨b1, b2, rfl, N4_, K, E_b1, F_b1_operand, E_b2, F_b2_variable⟩
theorem pn_com_example_covaria_covaria_FormulaLiteralPinLaw : plainName "com/example/covaria/covaria/FormulaLiteralPinLaw" = true := by first | (simp [plainName, overriddenIn]; done) | decide +kernel
theorem ef_0_I (m : MethodId) (x0 : Int32)  : entryFrame m #[(.int x0)] maxLocals = mkF m 0 #[.val (.int x0), .unset, .unset] [] := by first | (simp [entryFrame, mkF, argsToLocals, Value.category, maxLocals]; done) | rfl
theorem pd__28I_29Lcom_2fexample_2fcovaria_2fcovaria_2fFormula_3b : parseMethodDescriptor "(I)Lcom/example/covaria/covaria/Formula;" = some ⟨[.int], some (.object "com/example/covaria/covaria/Formula")⟩ := by decide +kernel
theorem pd__28_29I : parseMethodDescriptor "()I" = some ⟨[], some .int⟩ := by decide +kernel
theorem pd__28_29Lcom_2fexample_2fcovaria_2fcovaria_2fFormula_3b : parseMethodDescriptor "()Lcom/example/covaria/covaria/Formula;" = some ⟨[], some (.object "com/example/covaria/covaria/Formula")⟩ := by decide +kernel
set_option maxRecDepth 65536 in
set_option maxHeartbeats 40000000 in
theorem rm0 (l : Launch) (Z : State) (a0 : Array Value) (hw : ∀ d ∈ tables_1, d.before a0 Z = true) (ws : List Jvm.Cond) (i0 : Int32)  (h0 : Heap) (n0 : Nat) (Z0 : n0 ≤ h0.size)  :
    MetFree l x (head1 (Jvm.Cond.code x code maxLocals ret :: ws) room_1) (fun ar_ U => ar_ = #[(.int i0)] ∧ Z.Warmed39 U.vm ∧ U.heap = h0) (fun _ _ _ _ _ => True) (fun _ U o U' => Phi U (fun v h L => v = some (.int 1) ∧ Fr n0 L) room_1.cells room_1.slots o U') := by
  refine MetFree.of_bodySF (plainFor_of_name pn_com_example_covaria_covaria_FormulaLiteralPinLaw) hisR ?_
  intro p e s m args below meth c s₁ Bd hml0 hP hK
  obtain ⟨rfl, hZ, hh⟩ := hP
  have hx := Bd.exec
  have hby := Bd.bytes
  have hlk := Bd.notSynchronized
  have hml : c.maxLocals = 3 := hml0
  have hown : s.vm.findClass "com/example/covaria/covaria/FormulaLiteralPinLaw" = some m.cls := findClass_of_methodNamed Bd.named
  have hown0 := hown
  have hnm := (name_of_methodNamed Bd.named Bd.method).1
  have hret := Bd.returns
  have X0 : Stand p l e room_1 s m #[(.int i0)] below meth c s₁ [] 0 0 := Stand.of_body Bd
  have e0 : s₁.heap = h0 := by rw [← hh, Bd.state]; rfl
  have N0 := Fr.nil n0
  have sz := Z0
  have K := Keep.refl h0 []
  show Runs p.tables e below (Phi s (fun v h L => v = some (.int 1) ∧ Fr n0 L) room_1.cells room_1.slots) _
  refine Runs.st (fun t' k' => castTop (ef_0_I m i0 ) k') ?_
  show Runs p.tables e below _ (s₁.setTop (mkF m 0 #[.val (.int i0), .unset, .unset] []))
  refine Runs.st (fun t' k' => XS.iloadN X0.here hx rfl (hb hby at_0) rfl k') ?_
  show Runs p.tables e below _ (s₁.setTop (mkF m 1 #[.val (.int i0), .unset, .unset] [(.int i0)]))
  by_cases c1 : i0 = (0 : Int32)
  · skip
    refine Runs.st (fun t' k' => XS.ifYes X0.here hx rfl (pc0 := 1) (pc' := 10) rfl (hb hby at_1) rfl ((if0 _ _).trans (teq c1).1) (by decide) (by decide) k') ?_
    show Runs p.tables e below _ (s₁.setTop (mkF m 10 #[.val (.int i0), .unset, .unset] []))
    refine Runs.st (fun t' k' => XS.iconst X0.here hx rfl (hb hby at_10) k') ?_
    show Runs p.tables e below _ (s₁.setTop (mkF m 11 #[.val (.int i0), .unset, .unset] [(.int (1 : Int32))]))
    refine Runs.ret X0 hlk (v := (some (.int (1 : Int32)))) (fun h => by rw [hret] at h; cases h) (by decide) (by decide) ?_ (fun fs hr => retN X0 hx (t := .boolean) hret (by simp) (hb hby at_11) hr)
    try rw [e0]
    exact ⟨rfl, N0⟩
  · skip
    refine Runs.st (fun t' k' => XS.ifNo X0.here hx rfl (hb hby at_1) rfl ((if0 _ _).trans (feq c1).1) k') ?_
    show Runs p.tables e below _ (s₁.setTop (mkF m 4 #[.val (.int i0), .unset, .unset] []))
    refine Runs.st (fun t' k' => XS.iloadN X0.here hx rfl (hb hby at_4) rfl k') ?_
    show Runs p.tables e below _ (s₁.setTop (mkF m 5 #[.val (.int i0), .unset, .unset] [(.int i0)]))
    refine Runs.st (fun t' k' => X0.ldcInt hx hown (mvT hZ (hw _ (List.mem_of_getElem? (i := 0) rfl))) (g := (mkF m 5 #[.val (.int i0), .unset, .unset] [(.int i0)])) rfl (hb hby at_5) t' k') ?_
    show Runs p.tables e below _ (s₁.setTop (mkF m 7 #[.val (.int i0), .unset, .unset] [(.int (-2147483648 : Int32)), (.int i0)]))
    by_cases c7 : i0 = (-2147483648 : Int32)
    · skip
      refine Runs.st (fun t' k' => XS.icmpNo X0.here hx rfl (hb hby at_7) rfl (teq c7).2 k') ?_
      show Runs p.tables e below _ (s₁.setTop (mkF m 10 #[.val (.int i0), .unset, .unset] []))
      refine Runs.st (fun t' k' => XS.iconst X0.here hx rfl (hb hby at_10) k') ?_
      show Runs p.tables e below _ (s₁.setTop (mkF m 11 #[.val (.int i0), .unset, .unset] [(.int (1 : Int32))]))
      refine Runs.ret X0 hlk (v := (some (.int (1 : Int32)))) (fun h => by rw [hret] at h; cases h) (by decide) (by decide) ?_ (fun fs hr => retN X0 hx (t := .boolean) hret (by simp) (hb hby at_11) hr)
      try rw [e0]
      exact ⟨rfl, N0⟩
    · skip
      refine Runs.st (fun t' k' => XS.icmpYes X0.here hx rfl (pc0 := 7) (pc' := 12) rfl (hb hby at_7) rfl (feq c7).2 (by decide) (by decide) k') ?_
      show Runs p.tables e below _ (s₁.setTop (mkF m 12 #[.val (.int i0), .unset, .unset] []))
      refine Runs.st (fun t' k' => XS.iloadN X0.here hx rfl (hb hby at_12) rfl k') ?_
      show Runs p.tables e below _ (s₁.setTop (mkF m 13 #[.val (.int i0), .unset, .unset] [(.int i0)]))
      by_cases hp : (0 : Int32) < i0
      · skip
        show Runs p.tables e below _ (s₁.setTop (mkF m 13 #[.val (.int i0), .unset, .unset] [(.int i0)]))
        obtain ⟨_, _, ⟨T1_, L1_, k1_, n1_⟩, -, X1_, ⟨Lc1_, hQ1_, l1_, y1_, z1_⟩, st1_⟩ := Jvm.LawKit.callS X0 hx (y := (⟨"com/example/covaria/covaria/Formula", "literal", "(I)Lcom/example/covaria/covaria/Formula;"⟩ : MethodName)) hown (mvT hZ (hw _ (List.mem_of_getElem? (i := 1) rfl))) (mvT hZ (hw _ (List.mem_of_getElem? (i := 2) rfl))) (mvT hZ (hw _ (List.mem_of_getElem? (i := 3) rfl))) (mvT hZ (hw _ (List.mem_of_getElem? (i := 4) rfl))) (by decide) (backOf (W := 0) (rmLitP l Z a0 hw [] i0 h0 n0 sz hp) hZ (hw _ (List.mem_of_getElem? (i := 4) rfl)) (hw _ (List.mem_of_getElem? (i := 3) rfl)) (by decide) (by decide)) (g := (mkF m 13 #[.val (.int i0), .unset, .unset] [(.int i0)])) rfl (by rw [hml]; rfl) (argsL := [(.int i0)]) (rest := []) (lenOf pd__28I_29Lcom_2fexample_2fcovaria_2fcovaria_2fFormula_3b rfl) rfl (by show 2 * 0 + _ ≤ _; exact Nat.le_of_eq rfl) (hb hby at_13) (fun _ _ => ⟨rfl, e0, (by decide : 0 + 2 ≤ _), (by decide : 0 + 2 ≤ _)⟩)
        dsimp only [Pt.U, Pt.locs, Pt.cells, Pt.slots] at X1_ l1_ y1_ z1_ st1_ hQ1_
        subst l1_ y1_ z1_
        obtain ⟨b1, rfl, N1_q, K1_, E_b1, F_b1⟩ := hQ1_
        have N1_ := Fr.app N0 N1_q
        refine Runs.st (st1_) ?_
        replace X1_ := wider X1_ (c' := 2) (s' := 2) (by decide) (by decide)
        replace sz := Nat.le_trans sz K1_.1
        replace K := K.trans K1_ all0
        show Runs p.tables e below _ (T1_.setTop (mkF m 16 #[.val (.int i0), .unset, .unset] [(.ref b1)]))
        refine Runs.st (fun t' k' => XS.astoreN X1_.here hx rfl (hb hby at_16) rfl rfl (l' := #[.val (.int i0), .val (.ref b1), .unset]) rfl k') ?_
        show Runs p.tables e below _ (T1_.setTop (mkF m 17 #[.val (.int i0), .val (.ref b1), .unset] []))
        refine Runs.st (fun t' k' => XS.iloadN X1_.here hx rfl (hb hby at_17) rfl k') ?_
        show Runs p.tables e below _ (T1_.setTop (mkF m 18 #[.val (.int i0), .val (.ref b1), .unset] [(.int i0)]))
        refine Runs.st (fun t' k' => XS.ifNo X1_.here hx rfl (hb hby at_18) rfl ((if0 _ _).trans (tlt hp).2.2.2) k') ?_
        show Runs p.tables e below _ (T1_.setTop (mkF m 21 #[.val (.int i0), .val (.ref b1), .unset] []))
        refine Runs.st (fun t' k' => XS.aloadN X1_.here hx rfl (hb hby at_21) rfl rfl k') ?_
        show Runs p.tables e below _ (T1_.setTop (mkF m 22 #[.val (.int i0), .val (.ref b1), .unset] [(.ref b1)]))
        obtain ⟨T2_, X2_, e2_, st2_⟩ := instY X1_ hx hZ hown (hw _ (List.mem_of_getElem? (i := 21) rfl)) rfl (Ins.self E_b1) (g := (mkF m 22 #[.val (.int i0), .val (.ref b1), .unset] [(.ref b1)])) rfl rfl (hb hby at_22)
        refine Runs.st (st2_) ?_
        show Runs p.tables e below _ (T2_.setTop (mkF m 25 #[.val (.int i0), .val (.ref b1), .unset] [(.int (1 : Int32))]))
        refine Runs.st (fun t' k' => XS.ifYes X2_.here hx rfl (pc0 := 25) (pc' := 30) rfl (hb hby at_25) rfl ((if0 _ _).trans (feq (by decide)).2) (by decide) (by decide) k') ?_
        show Runs p.tables e below _ (T2_.setTop (mkF m 30 #[.val (.int i0), .val (.ref b1), .unset] []))
        refine Runs.st (fun t' k' => XS.aloadN X2_.here hx rfl (hb hby at_30) rfl rfl k') ?_
        show Runs p.tables e below _ (T2_.setTop (mkF m 31 #[.val (.int i0), .val (.ref b1), .unset] [(.ref b1)]))
        obtain ⟨T3_, X3_, e3_, st3_⟩ := castY X2_ hx hZ hown (hw _ (List.mem_of_getElem? (i := 21) rfl)) e2_ (Ins.self E_b1) (g := (mkF m 31 #[.val (.int i0), .val (.ref b1), .unset] [(.ref b1)])) rfl rfl (hb hby at_31)
        refine Runs.st (st3_) ?_
        show Runs p.tables e below _ (T3_.setTop (mkF m 34 #[.val (.int i0), .val (.ref b1), .unset] [(.ref b1)]))
        obtain ⟨cq4_, kq4_, q4_a, q4_b, q4_c⟩ := isOf hZ e3_ E_b1
        obtain ⟨_, _, ⟨T4_, L4_, k4_, n4_⟩, -, X4_, ⟨Lc4_, hQ4_, l4_, y4_, z4_⟩, st4_⟩ := X3_.virtualBack hx (y := (⟨"com/example/covaria/covaria/Formula$Variable", "variable", "()I"⟩ : MethodName)) (z := (⟨"com/example/covaria/covaria/Formula$Variable", "variable", "()I"⟩ : MethodName)) hown (mvT hZ (hw _ (List.mem_of_getElem? (i := 23) rfl))) (mvT hZ (hw _ (List.mem_of_getElem? (i := 24) rfl))) (notFace_of_selects (args := #[]) (mvT hZ (hw _ (List.mem_of_getElem? (i := 26) rfl)))) (mvT hZ (hw _ (List.mem_of_getElem? (i := 26) rfl))) (mvT hZ (hw _ (List.mem_of_getElem? (i := 25) rfl))) (by decide) (backOf (W := 0) (rmGetV l Z a0 hw [] b1 i0 T1_.heap n0 sz F_b1) hZ (hw _ (List.mem_of_getElem? (i := 27) rfl)) (hw _ (List.mem_of_getElem? (i := 7) rfl)) (by decide) (by decide)) q4_a q4_c (g := (mkF m 34 #[.val (.int i0), .val (.ref b1), .unset] [(.ref b1)])) rfl (by rw [hml]; rfl) (Steps.refl _) (argsL := []) (rest := []) (lenOf pd__28_29I rfl) rfl (by show 2 * 0 + _ ≤ _; exact Nat.le_of_eq rfl) (hb hby at_34) (fun _ _ => ⟨rfl, e3_, (by decide : 2 + 0 ≤ _), (by decide : 2 + 0 ≤ _)⟩)
        dsimp only [Pt.U, Pt.locs, Pt.cells, Pt.slots] at X4_ l4_ y4_ z4_ st4_ hQ4_
        subst l4_ y4_ z4_
        obtain ⟨rfl, N4_q, e4_⟩ := hQ4_
        have N4_ := Fr.app N1_ N4_q
        refine Runs.tr st4_ ?_
        replace X4_ := wider X4_ (c' := 2) (s' := 2) (by decide) (by decide)
        show Runs p.tables e below _ (T4_.setTop (mkF m 37 #[.val (.int i0), .val (.ref b1), .unset] [(.int i0)]))
        refine Runs.st (fun t' k' => XS.iloadN X4_.here hx rfl (hb hby at_37) rfl k') ?_
        show Runs p.tables e below _ (T4_.setTop (mkF m 38 #[.val (.int i0), .val (.ref b1), .unset] [(.int i0), (.int i0)]))
        refine Runs.st (fun t' k' => XS.icmpNo X4_.here hx rfl (hb hby at_38) rfl (teq rfl).2 k') ?_
        show Runs p.tables e below _ (T4_.setTop (mkF m 41 #[.val (.int i0), .val (.ref b1), .unset] []))
        refine Runs.st (fun t' k' => XS.iconst X4_.here hx rfl (hb hby at_41) k') ?_
        show Runs p.tables e below _ (T4_.setTop (mkF m 42 #[.val (.int i0), .val (.ref b1), .unset] [(.int (1 : Int32))]))
        refine Runs.st (fun t' k' => XS.goto X4_.here hx rfl (pc0 := 42) (pc' := 46) rfl (hb hby at_42) (by decide) (by decide) k') ?_
        show Runs p.tables e below _ (T4_.setTop (mkF m 46 #[.val (.int i0), .val (.ref b1), .unset] [(.int (1 : Int32))]))
        refine Runs.ret X4_ hlk (v := (some (.int (1 : Int32)))) (fun h => by rw [hret] at h; cases h) (by decide) (by decide) ?_ (fun fs hr => retN X4_ hx (t := .boolean) hret (by simp) (hb hby at_46) hr)
        try rw [e4_]
        exact ⟨rfl, N4_⟩
      · skip
        show Runs p.tables e below _ (s₁.setTop (mkF m 13 #[.val (.int i0), .unset, .unset] [(.int i0)]))
        obtain ⟨_, _, ⟨T5_, L5_, k5_, n5_⟩, -, X5_, ⟨Lc5_, hQ5_, l5_, y5_, z5_⟩, st5_⟩ := Jvm.LawKit.callS X0 hx (y := (⟨"com/example/covaria/covaria/Formula", "literal", "(I)Lcom/example/covaria/covaria/Formula;"⟩ : MethodName)) hown (mvT hZ (hw _ (List.mem_of_getElem? (i := 1) rfl))) (mvT hZ (hw _ (List.mem_of_getElem? (i := 2) rfl))) (mvT hZ (hw _ (List.mem_of_getElem? (i := 3) rfl))) (mvT hZ (hw _ (List.mem_of_getElem? (i := 4) rfl))) (by decide) (backOf (W := 0) (rmLitN l Z a0 hw [] i0 h0 n0 sz hp) hZ (hw _ (List.mem_of_getElem? (i := 4) rfl)) (hw _ (List.mem_of_getElem? (i := 3) rfl)) (by decide) (by decide)) (g := (mkF m 13 #[.val (.int i0), .unset, .unset] [(.int i0)])) rfl (by rw [hml]; rfl) (argsL := [(.int i0)]) (rest := []) (lenOf pd__28I_29Lcom_2fexample_2fcovaria_2fcovaria_2fFormula_3b rfl) rfl (by show 2 * 0 + _ ≤ _; exact Nat.le_of_eq rfl) (hb hby at_13) (fun _ _ => ⟨rfl, e0, (by decide : 0 + 2 ≤ _), (by decide : 0 + 2 ≤ _)⟩)
        dsimp only [Pt.U, Pt.locs, Pt.cells, Pt.slots] at X5_ l5_ y5_ z5_ st5_ hQ5_
        subst l5_ y5_ z5_
        obtain ⟨b1, b2, rfl, N5_q, K5_, E_b1, F_b1, E_b2, F_b2⟩ := hQ5_
        have N5_ := Fr.app N0 N5_q
        refine Runs.st (st5_) ?_
        replace X5_ := wider X5_ (c' := 2) (s' := 2) (by decide) (by decide)
        replace sz := Nat.le_trans sz K5_.1
        replace K := K.trans K5_ all0
        show Runs p.tables e below _ (T5_.setTop (mkF m 16 #[.val (.int i0), .unset, .unset] [(.ref b1)]))
        refine Runs.st (fun t' k' => XS.astoreN X5_.here hx rfl (hb hby at_16) rfl rfl (l' := #[.val (.int i0), .val (.ref b1), .unset]) rfl k') ?_
        show Runs p.tables e below _ (T5_.setTop (mkF m 17 #[.val (.int i0), .val (.ref b1), .unset] []))
        refine Runs.st (fun t' k' => XS.iloadN X5_.here hx rfl (hb hby at_17) rfl k') ?_
        show Runs p.tables e below _ (T5_.setTop (mkF m 18 #[.val (.int i0), .val (.ref b1), .unset] [(.int i0)]))
        refine Runs.st (fun t' k' => XS.ifYes X5_.here hx rfl (pc0 := 18) (pc' := 47) rfl (hb hby at_18) rfl ((if0 _ _).trans (flt hp).2.2.2) (by decide) (by decide) k') ?_
        show Runs p.tables e below _ (T5_.setTop (mkF m 47 #[.val (.int i0), .val (.ref b1), .unset] []))
        refine Runs.st (fun t' k' => XS.aloadN X5_.here hx rfl (hb hby at_47) rfl rfl k') ?_
        show Runs p.tables e below _ (T5_.setTop (mkF m 48 #[.val (.int i0), .val (.ref b1), .unset] [(.ref b1)]))
        obtain ⟨T6_, X6_, e6_, st6_⟩ := instY X5_ hx hZ hown (hw _ (List.mem_of_getElem? (i := 37) rfl)) rfl (Ins.self E_b1) (g := (mkF m 48 #[.val (.int i0), .val (.ref b1), .unset] [(.ref b1)])) rfl rfl (hb hby at_48)
        refine Runs.st (st6_) ?_
        show Runs p.tables e below _ (T6_.setTop (mkF m 51 #[.val (.int i0), .val (.ref b1), .unset] [(.int (1 : Int32))]))
        refine Runs.st (fun t' k' => XS.ifYes X6_.here hx rfl (pc0 := 51) (pc' := 56) rfl (hb hby at_51) rfl ((if0 _ _).trans (feq (by decide)).2) (by decide) (by decide) k') ?_
        show Runs p.tables e below _ (T6_.setTop (mkF m 56 #[.val (.int i0), .val (.ref b1), .unset] []))
        refine Runs.st (fun t' k' => XS.aloadN X6_.here hx rfl (hb hby at_56) rfl rfl k') ?_
        show Runs p.tables e below _ (T6_.setTop (mkF m 57 #[.val (.int i0), .val (.ref b1), .unset] [(.ref b1)]))
        obtain ⟨T7_, X7_, e7_, st7_⟩ := castY X6_ hx hZ hown (hw _ (List.mem_of_getElem? (i := 37) rfl)) e6_ (Ins.self E_b1) (g := (mkF m 57 #[.val (.int i0), .val (.ref b1), .unset] [(.ref b1)])) rfl rfl (hb hby at_57)
        refine Runs.st (st7_) ?_
        show Runs p.tables e below _ (T7_.setTop (mkF m 60 #[.val (.int i0), .val (.ref b1), .unset] [(.ref b1)]))
        obtain ⟨cq8_, kq8_, q8_a, q8_b, q8_c⟩ := isOf hZ e7_ E_b1
        obtain ⟨_, _, ⟨T8_, L8_, k8_, n8_⟩, -, X8_, ⟨Lc8_, hQ8_, l8_, y8_, z8_⟩, st8_⟩ := X7_.virtualBack hx (y := (⟨"com/example/covaria/covaria/Formula$Not", "operand", "()Lcom/example/covaria/covaria/Formula;"⟩ : MethodName)) (z := (⟨"com/example/covaria/covaria/Formula$Not", "operand", "()Lcom/example/covaria/covaria/Formula;"⟩ : MethodName)) hown (mvT hZ (hw _ (List.mem_of_getElem? (i := 39) rfl))) (mvT hZ (hw _ (List.mem_of_getElem? (i := 40) rfl))) (notFace_of_selects (args := #[]) (mvT hZ (hw _ (List.mem_of_getElem? (i := 42) rfl)))) (mvT hZ (hw _ (List.mem_of_getElem? (i := 42) rfl))) (mvT hZ (hw _ (List.mem_of_getElem? (i := 41) rfl))) (by decide) (backOf (W := 0) (rmGetO l Z a0 hw [] b1 b2 T5_.heap n0 sz F_b1) hZ (hw _ (List.mem_of_getElem? (i := 43) rfl)) (hw _ (List.mem_of_getElem? (i := 30) rfl)) (by decide) (by decide)) q8_a q8_c (g := (mkF m 60 #[.val (.int i0), .val (.ref b1), .unset] [(.ref b1)])) rfl (by rw [hml]; rfl) (Steps.refl _) (argsL := []) (rest := []) (lenOf pd__28_29Lcom_2fexample_2fcovaria_2fcovaria_2fFormula_3b rfl) rfl (by show 2 * 0 + _ ≤ _; exact Nat.le_of_eq rfl) (hb hby at_60) (fun _ _ => ⟨rfl, e7_, (by decide : 2 + 0 ≤ _), (by decide : 2 + 0 ≤ _)⟩)
        dsimp only [Pt.U, Pt.locs, Pt.cells, Pt.slots] at X8_ l8_ y8_ z8_ st8_ hQ8_
        subst l8_ y8_ z8_
        obtain ⟨rfl, N8_q, e8_⟩ := hQ8_
        have N8_ := Fr.app N5_ N8_q
        refine Runs.tr st8_ ?_
        replace X8_ := wider X8_ (c' := 2) (s' := 2) (by decide) (by decide)
        show Runs p.tables e below _ (T8_.setTop (mkF m 63 #[.val (.int i0), .val (.ref b1), .unset] [(.ref b2)]))
        refine Runs.st (fun t' k' => XS.astoreN X8_.here hx rfl (hb hby at_63) rfl rfl (l' := #[.val (.int i0), .val (.ref b1), .val (.ref b2)]) rfl k') ?_
        show Runs p.tables e below _ (T8_.setTop (mkF m 64 #[.val (.int i0), .val (.ref b1), .val (.ref b2)] []))
        refine Runs.st (fun t' k' => XS.aloadN X8_.here hx rfl (hb hby at_64) rfl rfl k') ?_
        show Runs p.tables e below _ (T8_.setTop (mkF m 65 #[.val (.int i0), .val (.ref b1), .val (.ref b2)] [(.ref b2)]))
        obtain ⟨T9_, X9_, e9_, st9_⟩ := instY X8_ hx hZ hown (hw _ (List.mem_of_getElem? (i := 21) rfl)) e8_ (Ins.self E_b2) (g := (mkF m 65 #[.val (.int i0), .val (.ref b1), .val (.ref b2)] [(.ref b2)])) rfl rfl (hb hby at_65)
        refine Runs.st (st9_) ?_
        show Runs p.tables e below _ (T9_.setTop (mkF m 68 #[.val (.int i0), .val (.ref b1), .val (.ref b2)] [(.int (1 : Int32))]))
        refine Runs.st (fun t' k' => XS.ifYes X9_.here hx rfl (pc0 := 68) (pc' := 73) rfl (hb hby at_68) rfl ((if0 _ _).trans (feq (by decide)).2) (by decide) (by decide) k') ?_
        show Runs p.tables e below _ (T9_.setTop (mkF m 73 #[.val (.int i0), .val (.ref b1), .val (.ref b2)] []))
        refine Runs.st (fun t' k' => XS.aloadN X9_.here hx rfl (hb hby at_73) rfl rfl k') ?_
        show Runs p.tables e below _ (T9_.setTop (mkF m 74 #[.val (.int i0), .val (.ref b1), .val (.ref b2)] [(.ref b2)]))
        obtain ⟨T10_, X10_, e10_, st10_⟩ := castY X9_ hx hZ hown (hw _ (List.mem_of_getElem? (i := 21) rfl)) e9_ (Ins.self E_b2) (g := (mkF m 74 #[.val (.int i0), .val (.ref b1), .val (.ref b2)] [(.ref b2)])) rfl rfl (hb hby at_74)
        refine Runs.st (st10_) ?_
        show Runs p.tables e below _ (T10_.setTop (mkF m 77 #[.val (.int i0), .val (.ref b1), .val (.ref b2)] [(.ref b2)]))
        obtain ⟨cq11_, kq11_, q11_a, q11_b, q11_c⟩ := isOf hZ e10_ E_b2
        obtain ⟨_, _, ⟨T11_, L11_, k11_, n11_⟩, -, X11_, ⟨Lc11_, hQ11_, l11_, y11_, z11_⟩, st11_⟩ := X10_.virtualBack hx (y := (⟨"com/example/covaria/covaria/Formula$Variable", "variable", "()I"⟩ : MethodName)) (z := (⟨"com/example/covaria/covaria/Formula$Variable", "variable", "()I"⟩ : MethodName)) hown (mvT hZ (hw _ (List.mem_of_getElem? (i := 23) rfl))) (mvT hZ (hw _ (List.mem_of_getElem? (i := 24) rfl))) (notFace_of_selects (args := #[]) (mvT hZ (hw _ (List.mem_of_getElem? (i := 26) rfl)))) (mvT hZ (hw _ (List.mem_of_getElem? (i := 26) rfl))) (mvT hZ (hw _ (List.mem_of_getElem? (i := 25) rfl))) (by decide) (backOf (W := 0) (rmGetV l Z a0 hw [] b2 (-i0) T5_.heap n0 sz F_b2) hZ (hw _ (List.mem_of_getElem? (i := 27) rfl)) (hw _ (List.mem_of_getElem? (i := 7) rfl)) (by decide) (by decide)) q11_a q11_c (g := (mkF m 77 #[.val (.int i0), .val (.ref b1), .val (.ref b2)] [(.ref b2)])) rfl (by rw [hml]; rfl) (Steps.refl _) (argsL := []) (rest := []) (lenOf pd__28_29I rfl) rfl (by show 2 * 0 + _ ≤ _; exact Nat.le_of_eq rfl) (hb hby at_77) (fun _ _ => ⟨rfl, e10_, (by decide : 2 + 0 ≤ _), (by decide : 2 + 0 ≤ _)⟩)
        dsimp only [Pt.U, Pt.locs, Pt.cells, Pt.slots] at X11_ l11_ y11_ z11_ st11_ hQ11_
        subst l11_ y11_ z11_
        obtain ⟨rfl, N11_q, e11_⟩ := hQ11_
        have N11_ := Fr.app N8_ N11_q
        refine Runs.tr st11_ ?_
        replace X11_ := wider X11_ (c' := 2) (s' := 2) (by decide) (by decide)
        show Runs p.tables e below _ (T11_.setTop (mkF m 80 #[.val (.int i0), .val (.ref b1), .val (.ref b2)] [(.int (-i0))]))
        refine Runs.st (fun t' k' => XS.iloadN X11_.here hx rfl (hb hby at_80) rfl k') ?_
        show Runs p.tables e below _ (T11_.setTop (mkF m 81 #[.val (.int i0), .val (.ref b1), .val (.ref b2)] [(.int i0), (.int (-i0))]))
        refine Runs.st (fun t' k' => XS.ineg X11_.here hx rfl (hb hby at_81) rfl k') ?_
        show Runs p.tables e below _ (T11_.setTop (mkF m 82 #[.val (.int i0), .val (.ref b1), .val (.ref b2)] [(.int (-i0)), (.int (-i0))]))
        refine Runs.st (fun t' k' => XS.icmpNo X11_.here hx rfl (hb hby at_82) rfl (teq rfl).2 k') ?_
        show Runs p.tables e below _ (T11_.setTop (mkF m 85 #[.val (.int i0), .val (.ref b1), .val (.ref b2)] []))
        refine Runs.st (fun t' k' => XS.iconst X11_.here hx rfl (hb hby at_85) k') ?_
        show Runs p.tables e below _ (T11_.setTop (mkF m 86 #[.val (.int i0), .val (.ref b1), .val (.ref b2)] [(.int (1 : Int32))]))
        refine Runs.st (fun t' k' => XS.goto X11_.here hx rfl (pc0 := 86) (pc' := 90) rfl (hb hby at_86) (by decide) (by decide) k') ?_
        show Runs p.tables e below _ (T11_.setTop (mkF m 90 #[.val (.int i0), .val (.ref b1), .val (.ref b2)] [(.int (1 : Int32))]))
        refine Runs.ret X11_ hlk (v := (some (.int (1 : Int32)))) (fun h => by rw [hret] at h; cases h) (by decide) (by decide) ?_ (fun fs hr => retN X11_ hx (t := .boolean) hret (by simp) (hb hby at_90) hr)
        try rw [e11_]
        exact ⟨rfl, N11_⟩
set_option maxRecDepth 65536 in
set_option maxHeartbeats 40000000 in
theorem comes_1 {Post : Tables → Env → Array Value → State → Outcome → State → Prop} (hpost : ∀ tb e args s v u, (limb_1_1.after args s (.returned v) u = true ∧ limb_1_2.after args s (.returned v) u = true ∧ True) → FrameEnd s (.returned v) u (Jvm.fieldLocs frame_1_writes args s ++ Jvm.arrayLocs frame_1_arrays args s ++ Jvm.staticLocs frame_1_statics s) 16 128 → Post tb e args s (.returned v) u) :
    ArmFor flags0 classFile x code maxLocals ret World_1 tables_1 room_1 Calls_1 rest_1 Pre_1 Post := by
  intro l hfl _ _ p e ha hc hk s m args below hf hA hF happ hP
  obtain ⟨hcalls, hrest, hpre⟩ := hP
  obtain ⟨-, -, -, hnamed, -, -, -, hat⟩ := (Spec.applies_iff hf).mp happ
  obtain ⟨hg, hn⟩ := and_e (Cond.before_iff.mp (show (Jvm.Cond.and given_1 narrow_1).before args s = true from hpre))
  obtain ⟨gc, gr⟩ := and_e hg
  have gi0 := gr
  obtain ⟨w0, rfl⟩ : ∃ w0 : Value, args = #[w0] := by
    have hs : args.size = 1 := by simpa [Cond.value, given_1] using gc
    obtain ⟨L⟩ := args
    match L, hs with
    | [w0], _ => exact ⟨w0, rfl⟩
  have hw := fun d (hd : d ∈ tables_1) => atoms_spec (ws := Jvm.Cond.code x code maxLocals ret :: tables_1) hat d (List.mem_cons_of_mem _ hd)
  have hfit : Fit s := fun {y c} hc i hi => by
    obtain ⟨ha, rfl⟩ := Array.getElem?_eq_some_iff.mp hc
    have q := List.all_eq_true.mp ((Array.all_eq_true_iff_forall_mem.mp hF) _ (Array.getElem_mem ha)) i (List.mem_range.mpr hi)
    simpa [Array.getElem?_eq_getElem hi] using q
  obtain ⟨i0, ei0⟩ := is_v gi0
  obtain rfl : w0 = (.int i0) := Option.some.inj ei0
  obtain ⟨n, o, h1, h2, h3, _, L, rfl, ⟨rfl, N⟩, hq⟩ := rm0 l s _ hw tables_1 i0 s.heap s.heap.size (Nat.le_refl _)  p e ha hc hk s m _ below hf ((Spec.applies_iff_loose hf).mp happ).1 ⟨rfl, State.Warmed39.refl s, rfl⟩ trivial
  refine ⟨n, _, h1, h2, h3, hpost _ _ _ _ _ _ ⟨Cond.after_iff.mpr rfl, Cond.after_iff.mpr (eq_i res_at (Term.int_eval (1)) rfl), trivial⟩ ⟨hq.1, hq.2.1, (hq.2.2.sift fun y hy => Or.inr (N y hy)).mono (by decide) (by decide)⟩⟩
theorem main_1_1 : Claimed_1_1 := comes_1 fun _ _ _ _ _ _ h hF => ⟨h.1, hF⟩
theorem main_1_2 : Claimed_1_2 := comes_1 fun _ _ _ _ _ _ h hF => ⟨h.2.1, hF⟩
end Jvm.Pilot.@@N@@
namespace Jvm.Pilot.@@N@@
open Jvm Jvm.ClassFile Sem Op Lib Jvm.Free Jvm.Stand Jvm.Pilot.@@N@@.Jvm.D
/-! MADE BY PROGRAM (witnessworld.py) out of the Statement's table words and the real class files: 12 classes; the members and pool entries that the words name. The judged class is class 1, her method 1. -/
namespace start1
open Jvm.ClassFile
def u (s : String) : CpInfo := .utf8 (stringToUtf16 s)
/-- a pool by its gaps: so many unusable entries, then the entry; so many at the end -/
def gap : Nat → List CpInfo → List CpInfo
  | 0, r => r
  | n + 1, r => .unusable :: gap n r
def poolList (es : List (Nat × CpInfo)) (last : Nat) : List CpInfo := es.foldr (fun e r => gap e.1 (e.2 :: r)) (gap last [])
def pool (es : List (Nat × CpInfo)) (last : Nat) : Array CpInfo := ⟨poolList es last⟩
def fileOf (pool : Array CpInfo) (this : Nat) (attrs : Array Attribute := #[]) (ms : Array MethodInfo := #[]) (fl : Nat := 33) (sup : Nat := 0) (ifs : Array Nat := #[]) (fds : Array FieldInfo := #[]) : ClassFile where
  minorVersion := 0
  majorVersion := 65
  constantPool := pool
  accessFlags := fl
  thisClass := this
  superClass := sup
  interfaces := ifs
  fields := fds
  methods := ms
  attributes := attrs
def plain (name : String) (sup : Option ClassId) : Class where
  name := name
  kind := .ordinary
  loader := none
  accessFlags := 33
  super := sup
  interfaces := #[]
  cf := none
  fields := #[]
  methods := #[]
  instanceTypes := #[]
  staticTypes := #[]
  resolved := #[]
  callSites := []
  init := .initialized
  statics := none
  mirror := none

def pool0 : Array CpInfo := pool [(5, u "<init>"), (0, u "()V"), (1, .class_ 10), (1, u "java/lang/Object")] 113

def k0c0 : Code := { maxStack := 0, maxLocals := 1, code := object_method_1_code, exceptionTable := #[], attributes := #[] }
def k0m0 : Method := { name := "<init>", desc := "()V", sig := { parameters := [], returnType := none }, accessFlags := 1, code := some k0c0 }
/-- java/lang/Object -/
def k0 : Class := { plain "java/lang/Object" none with
  accessFlags := 33
  interfaces := #[]
  cf := some (fileOf pool0 8 #[] #[{ accessFlags := 1, nameIndex := 5, descriptorIndex := 6, attributes := #[] }] 33 0 #[] #[])
  fields := #[]
  methods := #[k0m0]
  instanceTypes := #[]
  staticTypes := #[]
  resolved := Array.replicate 124 none
  statics := none }

def pool1 : Array CpInfo := pool [(2, .class_ 4), (1, u "java/lang/Object"), (0, u "<init>"), (0, u "()V"), (2, .integer 2147483648), (0, .interfaceMethodref 11 12), (0, .class_ 13), (0, .nameAndType 14 15), (0, u "com/example/covaria/covaria/Formula"), (0, u "literal"), (0, u "(I)Lcom/example/covaria/covaria/Formula;"), (0, .class_ 17), (0, u "com/example/covaria/covaria/Formula$Variable"), (0, .methodref 16 19), (0, .nameAndType 20 21), (0, u "variable"), (0, u "()I"), (0, .class_ 23), (0, u "com/example/covaria/covaria/Formula$Not"), (0, .methodref 22 25), (0, .nameAndType 26 27), (0, u "operand"), (0, u "()Lcom/example/covaria/covaria/Formula;"), (0, .class_ 29), (0, u "com/example/covaria/covaria/FormulaLiteralPinLaw"), (2, u "law"), (0, u "(I)Z")] 6

def k1m0 : Method := { name := "<init>", desc := "()V", sig := { parameters := [], returnType := none }, accessFlags := 1, code := none }
def k1c1 : Code := { maxStack := 2, maxLocals := 3, code := code, exceptionTable := #[], attributes := #[] }
def k1m1 : Method := { name := "law", desc := "(I)Z", sig := { parameters := [.int], returnType := some .boolean }, accessFlags := 9, code := some k1c1 }
/-- com/example/covaria/covaria/FormulaLiteralPinLaw -/
def k1 : Class := { plain "com/example/covaria/covaria/FormulaLiteralPinLaw" (some 0) with
  accessFlags := 49
  interfaces := #[]
  cf := some (fileOf pool1 28 #[] #[{ accessFlags := 1, nameIndex := 5, descriptorIndex := 6, attributes := #[] }, { accessFlags := 9, nameIndex := 32, descriptorIndex := 33, attributes := #[] }] 49 2 #[] #[])
  fields := #[]
  methods := #[k1m0, k1m1]
  instanceTypes := #[]
  staticTypes := #[]
  resolved := Array.replicate 40 none
  statics := none }

def pool2 : Array CpInfo := pool [(1, .class_ 2), (0, u "com/example/covaria/covaria/Formula$Variable"), (0, .methodref 1 4), (0, .nameAndType 5 6), (0, u "<init>"), (0, u "(I)V"), (0, .class_ 8), (0, u "com/example/covaria/covaria/Formula$Not"), (0, .methodref 7 10), (0, .nameAndType 5 11), (0, u "(Lcom/example/covaria/covaria/Formula;)V"), (0, .class_ 13), (0, u "com/example/covaria/covaria/Formula$Or"), (9, .class_ 24), (0, u "com/example/covaria/covaria/Formula"), (0, .class_ 26), (0, u "java/lang/Object"), (0, u "MAX_NESTING"), (0, u "I"), (2, u "literal"), (0, u "(I)Lcom/example/covaria/covaria/Formula;"), (8, .class_ 42), (0, u "com/example/covaria/covaria/Formula$Iff"), (0, .class_ 44), (0, u "com/example/covaria/covaria/Formula$And")] 7

def k2c0 : Code := { maxStack := 5, maxLocals := 1, code := prog_8_method_1_code, exceptionTable := #[], attributes := #[] }
def k2m0 : Method := { name := "literal", desc := "(I)Lcom/example/covaria/covaria/Formula;", sig := { parameters := [.int], returnType := some (.object "com/example/covaria/covaria/Formula") }, accessFlags := 9, code := some k2c0 }
/-- com/example/covaria/covaria/Formula -/
def k2 : Class := { plain "com/example/covaria/covaria/Formula" (some 0) with
  accessFlags := 1536
  interfaces := #[]
  cf := some (fileOf pool2 23 #[.nestMembers #[41, 12, 43, 7, 1]] #[{ accessFlags := 9, nameIndex := 31, descriptorIndex := 32, attributes := #[] }] 1536 25 #[] #[{ accessFlags := 25, nameIndex := 27, descriptorIndex := 28, attributes := #[] }])
  fields := #[{ name := "MAX_NESTING", type := .int, accessFlags := 25, slot := 0, constantValue := 0 }]
  methods := #[k2m0]
  instanceTypes := #[]
  staticTypes := #[.int]
  resolved := Array.replicate 52 none
  statics := none }

def pool3 : Array CpInfo := pool [(1, .methodref 2 3), (0, .class_ 4), (0, .nameAndType 5 6), (0, u "java/lang/Object"), (0, u "<init>"), (0, u "()V"), (0, .class_ 8), (0, u "java/lang/Record")] 13

def k3c0 : Code := { maxStack := 1, maxLocals := 1, code := jdk_30_method_1_code, exceptionTable := #[], attributes := #[] }
def k3m0 : Method := { name := "<init>", desc := "()V", sig := { parameters := [], returnType := none }, accessFlags := 4, code := some k3c0 }
/-- java/lang/Record -/
def k3 : Class := { plain "java/lang/Record" (some 0) with
  accessFlags := 1057
  interfaces := #[]
  cf := some (fileOf pool3 7 #[] #[{ accessFlags := 4, nameIndex := 5, descriptorIndex := 6, attributes := #[] }] 1057 2 #[] #[])
  fields := #[]
  methods := #[k3m0]
  instanceTypes := #[]
  staticTypes := #[]
  resolved := Array.replicate 22 none
  statics := none }

def pool4 : Array CpInfo := pool [(1, .methodref 2 3), (0, .class_ 4), (0, .nameAndType 5 6), (0, u "java/lang/Record"), (0, u "<init>"), (0, u "()V"), (0, .fieldref 8 9), (0, .class_ 10), (0, .nameAndType 11 12), (0, u "com/example/covaria/covaria/Formula$Variable"), (0, u "variable"), (0, u "I"), (12, .class_ 26), (0, u "com/example/covaria/covaria/Formula"), (0, u "(I)V"), (4, u "()I")] 22

def k4c0 : Code := { maxStack := 2, maxLocals := 2, code := prog_13_method_1_code, exceptionTable := #[], attributes := #[] }
def k4m0 : Method := { name := "<init>", desc := "(I)V", sig := { parameters := [.int], returnType := none }, accessFlags := 1, code := some k4c0 }
def k4c1 : Code := { maxStack := 1, maxLocals := 1, code := prog_13_method_5_code, exceptionTable := #[], attributes := #[] }
def k4m1 : Method := { name := "variable", desc := "()I", sig := { parameters := [], returnType := some .int }, accessFlags := 1, code := some k4c1 }
/-- com/example/covaria/covaria/Formula$Variable -/
def k4 : Class := { plain "com/example/covaria/covaria/Formula$Variable" (some 3) with
  accessFlags := 49
  interfaces := #[2]
  cf := some (fileOf pool4 8 #[.nestHost 25] #[{ accessFlags := 1, nameIndex := 5, descriptorIndex := 27, attributes := #[] }, { accessFlags := 1, nameIndex := 11, descriptorIndex := 32, attributes := #[] }] 49 2 #[25] #[{ accessFlags := 18, nameIndex := 11, descriptorIndex := 12, attributes := #[] }])
  fields := #[{ name := "variable", type := .int, accessFlags := 18, slot := 0, constantValue := 0 }]
  methods := #[k4m0, k4m1]
  instanceTypes := #[.int]
  staticTypes := #[]
  resolved := Array.replicate 55 none
  statics := none }

def pool5 : Array CpInfo := pool [(1, .methodref 2 3), (0, .class_ 4), (0, .nameAndType 5 6), (0, u "java/lang/Record"), (0, u "<init>"), (0, u "()V"), (0, .fieldref 8 9), (0, .class_ 10), (0, .nameAndType 11 12), (0, u "com/example/covaria/covaria/Formula$Not"), (0, u "operand"), (0, u "Lcom/example/covaria/covaria/Formula;"), (12, .class_ 26), (0, u "com/example/covaria/covaria/Formula"), (0, u "(Lcom/example/covaria/covaria/Formula;)V"), (6, u "()Lcom/example/covaria/covaria/Formula;")] 21

def k5c0 : Code := { maxStack := 2, maxLocals := 2, code := prog_11_method_1_code, exceptionTable := #[], attributes := #[] }
def k5m0 : Method := { name := "<init>", desc := "(Lcom/example/covaria/covaria/Formula;)V", sig := { parameters := [(.object "com/example/covaria/covaria/Formula")], returnType := none }, accessFlags := 1, code := some k5c0 }
def k5c1 : Code := { maxStack := 1, maxLocals := 1, code := prog_11_method_5_code, exceptionTable := #[], attributes := #[] }
def k5m1 : Method := { name := "operand", desc := "()Lcom/example/covaria/covaria/Formula;", sig := { parameters := [], returnType := some (.object "com/example/covaria/covaria/Formula") }, accessFlags := 1, code := some k5c1 }
/-- com/example/covaria/covaria/Formula$Not -/
def k5 : Class := { plain "com/example/covaria/covaria/Formula$Not" (some 3) with
  accessFlags := 49
  interfaces := #[2]
  cf := some (fileOf pool5 8 #[.nestHost 25] #[{ accessFlags := 1, nameIndex := 5, descriptorIndex := 27, attributes := #[] }, { accessFlags := 1, nameIndex := 11, descriptorIndex := 34, attributes := #[] }] 49 2 #[25] #[{ accessFlags := 18, nameIndex := 11, descriptorIndex := 12, attributes := #[] }])
  fields := #[{ name := "operand", type := (.object "com/example/covaria/covaria/Formula"), accessFlags := 18, slot := 0, constantValue := 0 }]
  methods := #[k5m0, k5m1]
  instanceTypes := #[(.object "com/example/covaria/covaria/Formula")]
  staticTypes := #[]
  resolved := Array.replicate 56 none
  statics := none }

def pool6 : Array CpInfo := pool [(1, u "java/lang/Cloneable"), (0, .class_ 1), (0, u "java/lang/Object"), (0, .class_ 3)] 3

/-- java/lang/Cloneable -/
def k6 : Class := { plain "java/lang/Cloneable" (some 0) with
  accessFlags := 1537
  interfaces := #[]
  cf := some (fileOf pool6 2 #[] #[] 1537 4 #[] #[])
  fields := #[]
  methods := #[]
  instanceTypes := #[]
  staticTypes := #[]
  resolved := Array.replicate 8 none
  statics := none }

def pool7 : Array CpInfo := pool [(1, u "java/io/Serializable"), (0, .class_ 1), (0, u "java/lang/Object"), (0, .class_ 3)] 3

/-- java/io/Serializable -/
def k7 : Class := { plain "java/io/Serializable" (some 0) with
  accessFlags := 1537
  interfaces := #[]
  cf := some (fileOf pool7 2 #[] #[] 1537 4 #[] #[])
  fields := #[]
  methods := #[]
  instanceTypes := #[]
  staticTypes := #[]
  resolved := Array.replicate 8 none
  statics := none }

/-- the primitive byte -/
def k8 : Class := { plain "byte" none with kind := .primitive 'B', accessFlags := 0x411 }
/-- [B -/
def k9 : Class := { plain "[B" (some 0) with kind := .array 8 .byte, interfaces := #[6, 7], accessFlags := 1041 }

/-- the primitive int -/
def k10 : Class := { plain "int" none with kind := .primitive 'I', accessFlags := 0x411 }
/-- [I -/
def k11 : Class := { plain "[I" (some 0) with kind := .array 10 .int, interfaces := #[6, 7], accessFlags := 1041 }

def heap : Heap := #[]
def classes : Array Class := #[k0, k1, k2, k3, k4, k5, k6, k7, k8, k9, k10, k11]
def interned : List (Array UInt16 × Addr) := []
def slotsUsed : Nat := 0
def theMethod : MethodId := ⟨1, 1⟩
def args0 : Array Value := #[.int 5]
def aboutOver (below : List Frame) : State where
  vm := { classes := classes, interned := interned.toArray }
  heap := heap
  slotsUsed := slotsUsed
  threads := #[{ frames := .invoking theMethod args0 :: below }]
def below0 : List Frame := [.native { method := ⟨0, 0⟩, args := #[] }]
def about1 : State := aboutOver below0
def p0 : Program := .bare "" "" ""
def e0 : Env := launch0.env 0 0 0
theorem w_frames : about1.frames = Frame.invoking theMethod args0 :: below0 := rfl
set_option maxRecDepth 65536 in
theorem w_args : argsFit about1.vm theMethod args0 = true := by decide +kernel
set_option maxRecDepth 65536 in
theorem w_heap : heapFits about1 = true := by decide +kernel
set_option maxRecDepth 65536 in
theorem w_runnable : about1.curStatus? = some .runnable := by decide +kernel
set_option maxRecDepth 65536 in
theorem w_alone : about1.alone = true := by decide +kernel
set_option maxRecDepth 65536 in
theorem w_named : about1.methodNamed? x = some theMethod := by decide +kernel
set_option maxRecDepth 65536 in
theorem w_hears : about1.hears theMethod below0 = true := by decide +kernel
set_option maxRecDepth 65536 in
theorem w_ripe : about1.ripe theMethod args0 below0 = true := by decide +kernel
theorem w_running : about1.status = .running := rfl
set_option maxRecDepth 65536 in
theorem w_room : about1.hasRoom e0.platform room_1 = true :=
  launch0.hasRoom_least _ room_1 (by decide +kernel) (by decide +kernel) (by decide +kernel) (by decide +kernel) (by decide +kernel) (by decide +kernel)
theorem allAtoms_all (ts : List Jvm.Cond) (a : Array Jvm.Value) (st : Jvm.State) : (allAtoms ts).before a st = ts.all (fun c => c.before a st) := by
  induction ts with
  | nil => rfl
  | cons c t ih =>
    show (Jvm.Cond.and c (allAtoms t)).before a st = _
    rw [Jvm.Cond.before_and, ih, List.all_cons]
def words1 : List Jvm.Cond := Jvm.Cond.code x code maxLocals ret :: tables_1
/-- a 'code' word, met by the world's own term for the bytes: nothing is compared byte by byte -/
theorem code_word {y : MethodName} {bytes : ByteArray} {mx : Nat} {rt : Option FieldType} {a : Array Value} {s : State} {m : MethodId} {meth : Method} {c : Code} (h1 : s.methodNamed? y = some m) (h2 : s.vm.method? m = some meth) (h3 : meth.code = some c) (h4 : c.code = bytes)
    (h5 : (c.maxLocals == mx && c.exceptionTable.isEmpty && decide (c.maxStack ≤ mostOperands) && decide (meth.sig.returnType = rt) && !meth.locks && decide (parseMethodDescriptor y.desc = some meth.sig)) = true) : (Jvm.Cond.code y bytes mx rt).before a s = true := by
  simp only [Bool.and_eq_true, beq_iff_eq, Bool.not_eq_true', decide_eq_true_eq] at h5
  obtain ⟨⟨⟨⟨⟨g1, g2⟩, g3⟩, g4⟩, g5⟩, g6⟩ := h5
  simp [Cond.before, Cond.holds, Cond.value, h1, h2, h3, h4, g1, g2, g3, g4, g5, g6]
def isCode : Jvm.Cond → Bool
  | .code _ _ _ _ => true
  | _ => false
theorem all_split {L : List Jvm.Cond} {P : Jvm.Cond → Bool} (h1 : L.all (fun c => isCode c || P c) = true) (h2 : ∀ c ∈ L.filter isCode, P c = true) : L.all P = true := by
  refine List.all_eq_true.mpr fun c hc => ?_
  have h := List.all_eq_true.mp h1 c hc
  rcases Bool.eq_false_or_eq_true (isCode c) with hi | hi
  · exact h2 c (List.mem_filter.mpr ⟨hc, hi⟩)
  · simpa [hi] using h
set_option maxRecDepth 65536 in
theorem w_c0 : (Jvm.Cond.code x code maxLocals ret).before args0 about1 = true := code_word (m := ⟨1, 1⟩) (meth := k1m1) (c := k1c1) (by decide +kernel) rfl rfl rfl (by decide +kernel)
set_option maxRecDepth 65536 in
theorem w_c1 : (Jvm.Cond.code ({ cls := "com/example/covaria/covaria/Formula", name := "literal", desc := "(I)Lcom/example/covaria/covaria/Formula;" } : Jvm.MethodName) prog_8_method_1_code (1 : Nat) (Option.some (Jvm.ClassFile.FieldType.object "com/example/covaria/covaria/Formula"))).before args0 about1 = true := code_word (m := ⟨2, 0⟩) (meth := k2m0) (c := k2c0) (by decide +kernel) rfl rfl rfl (by decide +kernel)
set_option maxRecDepth 65536 in
theorem w_c2 : (Jvm.Cond.code ({ cls := "com/example/covaria/covaria/Formula$Variable", name := "<init>", desc := "(I)V" } : Jvm.MethodName) prog_13_method_1_code (2 : Nat) (Option.none : Option Jvm.ClassFile.FieldType)).before args0 about1 = true := code_word (m := ⟨4, 0⟩) (meth := k4m0) (c := k4c0) (by decide +kernel) rfl rfl rfl (by decide +kernel)
set_option maxRecDepth 65536 in
theorem w_c3 : (Jvm.Cond.code ({ cls := "java/lang/Record", name := "<init>", desc := "()V" } : Jvm.MethodName) jdk_30_method_1_code (1 : Nat) (Option.none : Option Jvm.ClassFile.FieldType)).before args0 about1 = true := code_word (m := ⟨3, 0⟩) (meth := k3m0) (c := k3c0) (by decide +kernel) rfl rfl rfl (by decide +kernel)
set_option maxRecDepth 65536 in
theorem w_c4 : (Jvm.Cond.code ({ cls := "java/lang/Object", name := "<init>", desc := "()V" } : Jvm.MethodName) object_method_1_code (1 : Nat) (Option.none : Option Jvm.ClassFile.FieldType)).before args0 about1 = true := code_word (m := ⟨0, 0⟩) (meth := k0m0) (c := k0c0) (by decide +kernel) rfl rfl rfl (by decide +kernel)
set_option maxRecDepth 65536 in
theorem w_c5 : (Jvm.Cond.code ({ cls := "com/example/covaria/covaria/Formula$Variable", name := "variable", desc := "()I" } : Jvm.MethodName) prog_13_method_5_code (1 : Nat) (Option.some Jvm.ClassFile.FieldType.int)).before args0 about1 = true := code_word (m := ⟨4, 1⟩) (meth := k4m1) (c := k4c1) (by decide +kernel) rfl rfl rfl (by decide +kernel)
set_option maxRecDepth 65536 in
theorem w_c6 : (Jvm.Cond.code ({ cls := "com/example/covaria/covaria/Formula$Not", name := "<init>", desc := "(Lcom/example/covaria/covaria/Formula;)V" } : Jvm.MethodName) prog_11_method_1_code (2 : Nat) (Option.none : Option Jvm.ClassFile.FieldType)).before args0 about1 = true := code_word (m := ⟨5, 0⟩) (meth := k5m0) (c := k5c0) (by decide +kernel) rfl rfl rfl (by decide +kernel)
set_option maxRecDepth 65536 in
theorem w_c7 : (Jvm.Cond.code ({ cls := "com/example/covaria/covaria/Formula$Not", name := "operand", desc := "()Lcom/example/covaria/covaria/Formula;" } : Jvm.MethodName) prog_11_method_5_code (1 : Nat) (Option.some (Jvm.ClassFile.FieldType.object "com/example/covaria/covaria/Formula"))).before args0 about1 = true := code_word (m := ⟨5, 1⟩) (meth := k5m1) (c := k5c1) (by decide +kernel) rfl rfl rfl (by decide +kernel)
def codes1 : List Jvm.Cond := [Jvm.Cond.code x code maxLocals ret, Jvm.Cond.code ({ cls := "com/example/covaria/covaria/Formula", name := "literal", desc := "(I)Lcom/example/covaria/covaria/Formula;" } : Jvm.MethodName) prog_8_method_1_code (1 : Nat) (Option.some (Jvm.ClassFile.FieldType.object "com/example/covaria/covaria/Formula")), Jvm.Cond.code ({ cls := "com/example/covaria/covaria/Formula$Variable", name := "<init>", desc := "(I)V" } : Jvm.MethodName) prog_13_method_1_code (2 : Nat) (Option.none : Option Jvm.ClassFile.FieldType), Jvm.Cond.code ({ cls := "java/lang/Record", name := "<init>", desc := "()V" } : Jvm.MethodName) jdk_30_method_1_code (1 : Nat) (Option.none : Option Jvm.ClassFile.FieldType), Jvm.Cond.code ({ cls := "java/lang/Object", name := "<init>", desc := "()V" } : Jvm.MethodName) object_method_1_code (1 : Nat) (Option.none : Option Jvm.ClassFile.FieldType), Jvm.Cond.code ({ cls := "com/example/covaria/covaria/Formula$Variable", name := "variable", desc := "()I" } : Jvm.MethodName) prog_13_method_5_code (1 : Nat) (Option.some Jvm.ClassFile.FieldType.int), Jvm.Cond.code ({ cls := "com/example/covaria/covaria/Formula$Not", name := "<init>", desc := "(Lcom/example/covaria/covaria/Formula;)V" } : Jvm.MethodName) prog_11_method_1_code (2 : Nat) (Option.none : Option Jvm.ClassFile.FieldType), Jvm.Cond.code ({ cls := "com/example/covaria/covaria/Formula$Not", name := "operand", desc := "()Lcom/example/covaria/covaria/Formula;" } : Jvm.MethodName) prog_11_method_5_code (1 : Nat) (Option.some (Jvm.ClassFile.FieldType.object "com/example/covaria/covaria/Formula"))]
set_option maxRecDepth 65536 in
theorem codes_eq : words1.filter isCode = codes1 := rfl
theorem w_codes : ∀ c ∈ words1.filter isCode, c.before args0 about1 = true := by
  rw [codes_eq]
  intro c hc
  simp only [codes1, List.mem_cons, List.not_mem_nil, or_false] at hc
  rcases hc with rfl | rfl | rfl | rfl | rfl | rfl | rfl | rfl
  · exact w_c0
  · exact w_c1
  · exact w_c2
  · exact w_c3
  · exact w_c4
  · exact w_c5
  · exact w_c6
  · exact w_c7
set_option maxRecDepth 65536 in
theorem w_t1 : (words1.take 24).all (fun c => isCode c || c.before args0 about1) = true := by decide +kernel
set_option maxRecDepth 65536 in
theorem w_t2 : (words1.drop 24).all (fun c => isCode c || c.before args0 about1) = true := by decide +kernel
theorem w_tables : (allAtoms (Jvm.Cond.code x code maxLocals ret :: tables_1)).before args0 about1 = true := by
  rw [allAtoms_all]
  show words1.all (fun c => c.before args0 about1) = true
  refine all_split ?_ w_codes
  rw [← List.take_append_drop 24 words1, List.all_append, w_t1, w_t2]
  rfl
set_option maxRecDepth 65536 in
theorem w_case : (Jvm.Cond.and given_1 narrow_1).before args0 about1 = true := by decide +kernel
theorem w_applies : (headSpec (Jvm.Cond.code x code maxLocals ret :: tables_1) room_1).applies x e0.platform about1 = true :=
  (Spec.applies_iff w_frames).mpr ⟨w_running, w_runnable, w_alone, w_named, w_hears, w_ripe, w_room, w_tables⟩
theorem atStart : AtStart classFile x code maxLocals ret World_1 tables_1 room_1 Calls_1 rest_1 Pre_1 launch0 p0 e0 about1 theMethod args0 below0 :=
  ⟨lists_1, trivial, launch0.admits_env _ _ _, launch0.least_env, fairChoices_fair.cas, fairChoices_fair.clock, w_frames, w_args, w_heap, w_applies, trivial, trivial, w_case⟩
end start1
theorem witness_1 : WitnessClaimed_1 := ⟨start1.p0, start1.e0, start1.about1, start1.theMethod, start1.args0, start1.below0, start1.atStart⟩
end Jvm.Pilot.@@N@@
