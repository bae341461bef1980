import JvmDerived
import JvmDerived.Pilot.@@N@@Statement
import JvmDerived.Pilot.@@N@@Code
set_option linter.unusedVariables false
set_option linter.unusedSimpArgs false
@@BLOCK:NumsL.lean.txt@@
namespace Jvm.RoadKit
open Sem ClassFile Op Lib Jvm.Stand Jvm.Free Jvm.LawKit
section New
variable {p : Program} {l : Launch} {e : Env} {R : Room} {s : State} {m : MethodId} {args : Array Value} {below : List Frame} {meth : Method} {c : Code} {T : State} {locs : List Loc} {cells slots : Nat}
theorem retI (X : Stand p l e R s m args below meth c T locs cells slots) (hx : p.tables.exec = Jvm.exec) {pc : Nat} {Ls : Array Slot} {z : Int32} {rest : List Value} (hret : meth.sig.returnType = some .int) (hd : decode c.code pc = .ok (.ireturn, 1)) {fs : List Frame}
    (hl : ∀ (f : JFrame) (acts : List Action), f.method = m → f.locked = none → f.entered = [] → (doReturn e (T.setTop f) acts (some (.int z))).1 = T.setFrames fs) : Steps p.tables e below (T.setTop (mkF m pc Ls (.int z :: rest))) (T.setFrames fs) := by
  have hm' : T.vm.method? m = some meth := X.method'
  have hn : narrow .int (.int z) = .int z := rfl
  show Steps p.tables e below (T.setTop { method := m, pc := pc, locals := Ls, stack := _ :: rest, locked := none }) _
  jvm_step X.here [X.here.top, hx, hd, hm', hret, hn]
  first | (intro acts; rw [hl _ acts rfl rfl rfl]) | rw [hl _ _ rfl rfl rfl]
  exact Steps.refl _
end New
end Jvm.RoadKit
namespace Jvm.OwnRuns
open Jvm Sem ClassFile Op Lib Jvm.Stand Jvm.Free Jvm.LawKit Jvm.RoadKit
/-- from the state T the invocation comes to its end, and there Φ holds -/
def Runs (tb : Tables) (e : Env) (below : List Frame) (Φ : Outcome → State → Prop) (T : State) : Prop := ∃ s₂ o, Steps tb e below T s₂ ∧ s₂.status = .running ∧ Ended s₂ below o ∧ Φ o s₂
abbrev Phi (s : State) (Q : Option Value → Heap → List Loc → Prop) (k n : Nat) (o : Outcome) (U' : State) : Prop := ∃ v L, o = .returned v ∧ Q v U'.heap L ∧ FrameEnd s o U' L k n
theorem Runs.st {tb : Tables} {e : Env} {below : List Frame} {Φ : Outcome → State → Prop} {T T' : State} (h : ∀ t, Steps tb e below T' t → Steps tb e below T t) (r : Runs tb e below Φ T') : Runs tb e below Φ T := by
  obtain ⟨a, o, h1, h2⟩ := r
  exact ⟨a, o, h a h1, h2⟩
theorem Runs.tr {tb : Tables} {e : Env} {below : List Frame} {Φ : Outcome → State → Prop} {T T' : State} (h : Steps tb e below T T') (r : Runs tb e below Φ T') : Runs tb e below Φ T := Runs.st (fun _ k => h.trans k) r
section Laws
variable {p : Program} {l : Launch} {e : Env} {R : Room} {s : State} {m : MethodId} {args : Array Value} {below : List Frame} {meth : Method} {c : Code} {T : State} {locs : List Loc} {cells slots : Nat}
theorem Runs.ret (X : Stand p l e R s m args below meth c T locs cells slots) (hlk : meth.locks = false) {v : Option Value} (hv : meth.sig.returnType = none → v = none) {Q : Option Value → Heap → List Loc → Prop} {k n : Nat} (hk : cells ≤ k) (hn : slots ≤ n) (hQ : Q v T.heap locs) {T0 : State}
    (hst : ∀ fs : List Frame, (∀ (f : JFrame) (acts : List Action), f.method = m → f.locked = none → f.entered = [] → (doReturn e (T.setTop f) acts v).1 = T.setFrames fs) → Steps p.tables e below T0 (T.setFrames fs)) : Runs p.tables e below (Phi s Q k n) T0 := by
  obtain ⟨fs, hr, hrun, hended, hW, hsame⟩ := X.leave hv hlk
  exact ⟨_, _, hst fs hr, hrun, hended, _, _, rfl, hQ, ⟨_, rfl⟩, hW, hsame.mono hk hn⟩
theorem wider (X : Stand p l e R s m args below meth c T locs cells slots) {c' s' : Nat} (hc : cells ≤ c') (hs : slots ≤ s') : Stand p l e R s m args below meth c T locs c' s' := { X with same := X.same.mono hc hs }
abbrev PhiW (s : State) (Q : Option Value → Heap → List Loc → Prop) (k n : Nat) (o : Outcome) (U' : State) : Prop := ∃ v L, o = .returned v ∧ Q v U'.heap L ∧ ReturnedEndW s o U' L k n
theorem Runs.retW {vm₁ : Vm} (X : Stand p l e R (s.setVm vm₁) m args below meth c T locs cells slots) {n1 : Nat} (hS : s.Since vm₁ n1) (hk1 : n1 ≤ T.heap.size) (hlk : meth.locks = false) {v : Option Value} (hv : meth.sig.returnType = none → v = none) {Q : Option Value → Heap → List Loc → Prop} {k n : Nat} (hk : cells ≤ k) (hn : slots ≤ n) (hQ : Q v T.heap locs) {T0 : State}
    (hst : ∀ fs : List Frame, (∀ (f : JFrame) (acts : List Action), f.method = m → f.locked = none → f.entered = [] → (doReturn e (T.setTop f) acts v).1 = T.setFrames fs) → Steps p.tables e below T0 (T.setFrames fs)) : Runs p.tables e below (PhiW s Q k n) T0 := by
  obtain ⟨fs, hr, hrun, hended, hW⟩ := (wider X hk hn).leaveW hS hk1 hv hlk
  exact ⟨_, _, hst fs hr, hrun, hended, _, _, rfl, hQ, hW⟩
abbrev PhiH (Z : State) (EL : List (String × Nat)) (s : State) (Q : Option Value → Heap → List Loc → Prop) (k n : Nat) (o : Outcome) (U' : State) : Prop := ∃ v L, o = .returned v ∧ Q v U'.heap L ∧ CHr Z EL s.vm s.heap U'.vm U'.heap ∧ ReturnedEndW s o U' L k n
theorem Runs.retH {Z : State} {EL : List (String × Nat)} {vm₁ : Vm} (X : Stand p l e R (s.setVm vm₁) m args below meth c T locs cells slots) {n1 : Nat} (hS : s.Since vm₁ n1) (hk1 : n1 ≤ T.heap.size) (hlk : meth.locks = false) {v : Option Value} (hv : meth.sig.returnType = none → v = none) {Q : Option Value → Heap → List Loc → Prop} {k n : Nat} (hk : cells ≤ k) (hn : slots ≤ n) (hQ : Q v T.heap locs) (hC : CHr Z EL s.vm s.heap T.vm T.heap) {T0 : State}
    (hst : ∀ fs : List Frame, (∀ (f : JFrame) (acts : List Action), f.method = m → f.locked = none → f.entered = [] → (doReturn e (T.setTop f) acts v).1 = T.setFrames fs) → Steps p.tables e below T0 (T.setFrames fs)) : Runs p.tables e below (PhiH Z EL s Q k n) T0 := by
  obtain ⟨fs, hr, hrun, hended, hW⟩ := (wider X hk hn).leaveW hS hk1 hv hlk
  exact ⟨_, _, hst fs hr, hrun, hended, _, _, rfl, hQ, hC, hW⟩
end Laws
section Facts
variable {Z : State} {h h' : Heap} {a : Addr} {C n d : String} {v : Value} {bo : Bool} {ws : List Addr}
theorem Ins_keep (F : Ins Z h a C bo) (K : Keep h h' ws) : Ins Z h' a C bo := by
  obtain ⟨cell, cT, h1, h2, h3⟩ := F
  obtain ⟨c', e1, e2, e3, -⟩ := K.2.2 _ _ h1
  exact ⟨c', cT, e1, h2, by rw [e2, e3]; exact h3⟩
theorem narrow_ref {t : FieldType} {v : Value} (h : v.isRef = true) : narrow t v = v := by rcases ref_cases h with rfl | ⟨_, rfl⟩ <;> cases t <;> rfl
end Facts
end Jvm.OwnRuns
namespace Jvm.OwnRuns
open Jvm Sem ClassFile Op Lib Jvm.Stand Jvm.Free Jvm.LawKit Jvm.RoadKit
section Words
variable {args : Array Value} {s : State} {t : Term}
theorem val_int {k : Int32} (h : (Cond.eq t (.int k)).value args s none s [] = some true) : t.eval args s none [] s = some (.int k) := Cond.eq_int (Cond.before_iff.mpr h) rfl
theorem the_static {C n d K : String} (h : (Cond.exactly (.static C n d) K).value args s none s [] = some true) (h1 : (Cond.initialized C).before args s = true) (h2 : (Cond.laysStatic C n d).before args s = true) :
    ∃ a, (Term.static C n d).eval args s none [] s = some (.ref a) ∧ Sta s s.heap C n d (.ref a) ∧ Exa s s.heap a K := by
  obtain ⟨a, e⟩ := exa_v h
  exact ⟨a, e, Sta.start e (Or.inr ⟨h1, h2⟩), Exa.start e h⟩
theorem the_int {C n d : String} {a : Addr} {k : Int32} (e : t.eval args s none [] s = some (.ref a)) (h : (Cond.eq (.field t C n d) (.int k)).value args s none s [] = some true) : Fld s s.heap a C n d (.int k) :=
  Fld.start ((fld_at e).symm.trans (val_int h))
theorem the_ref {C n d K : String} {a : Addr} (e : t.eval args s none [] s = some (.ref a)) (h : (Cond.exactly (.field t C n d) K).value args s none s [] = some true) :
    ∃ b, (Term.field t C n d).eval args s none [] s = some (.ref b) ∧ Fld s s.heap a C n d (.ref b) ∧ Exa s s.heap b K := by
  obtain ⟨b, eb⟩ := exa_v h
  exact ⟨b, eb, Fld.start ((fld_at e).symm.trans eb), Exa.start eb h⟩
theorem the_arr {C n d : String} {ty : FieldType} {a : Addr} (e : t.eval args s none [] s = some (.ref a)) (h : (Cond.arrayOf (.field t C n d) ty).value args s none s [] = some true) :
    ∃ b cl, (Term.field t C n d).eval args s none [] s = some (.ref b) ∧ Fld s s.heap a C n d (.ref b) ∧ Arr s s.heap b cl ty := by
  obtain ⟨b, eb⟩ := arr_v h
  obtain ⟨cl, A⟩ := Arr.start eb h
  exact ⟨b, cl, eb, Fld.start ((fld_at e).symm.trans eb), A⟩
theorem the_len {b : Addr} {cl : Cell} {ty : FieldType} {z : Int32} (e : t.eval args s none [] s = some (.ref b)) (A : Arr s s.heap b cl ty) (h : (Cond.eq (.length t) (.int z)).value args s none s [] = some true) : cl.slots.size < 2 ^ 31 ∧ cl.slots.size.toInt32 = z := by
  have hv := val_int h
  obtain ⟨x, c', e1, e2, -⟩ := Term.length_spec hv
  cases e.symm.trans e1
  have e3 := A.fin (Vm.Alike.refl _)
  cases e2.symm.trans e3
  have h31 := SBG.length_lt e1 e2 hv
  exact ⟨h31, Value.int.inj (Option.some.inj ((len_f e e3 h31).symm.trans hv))⟩
theorem the_elem {b : Addr} {cl : Cell} {ty : FieldType} {j k : Int32} (e : t.eval args s none [] s = some (.ref b)) (A : Arr s s.heap b cl ty) (h : (Cond.eq (.elem t (.int j)) (.int k)).value args s none s [] = some true) : cl.slots[j.toNatClampNeg]? = some (.int k) :=
  (elem_in (val_int h) e rfl A.1).2
end Words
end Jvm.OwnRuns
namespace Jvm.OwnRuns
open Jvm Sem ClassFile Op Lib Jvm.Stand Jvm.Free Jvm.LawKit Jvm.RoadKit
theorem fld_one {Z : State} {h : Heap} {a b d : Addr} {C n t : String} (F : Fld Z h a C n t (.ref b)) (G : Fld Z h a C n t (.ref d)) : b = d := by
  obtain ⟨c1, _, _, _, f1, h1, h2, -, -, -, -, h7⟩ := F
  obtain ⟨c2, _, _, _, f2, g1, g2, -, -, -, -, g7⟩ := G
  cases h1.symm.trans g1; cases h2.symm.trans g2
  exact Value.ref.inj (Option.some.inj (h7.symm.trans g7))
theorem arv_len {Z : State} {h : Heap} {a : Addr} {k k' : ClassId} {ty ty' : FieldType} {z z' : Int32} {vs vs' : List Value} {d d' : Value} (F : Arv Z h a k ty z vs d) (G : Arv Z h a k' ty' z' vs' d') : z = z' := by
  obtain ⟨c1, A1, -, S1, M1, -⟩ := F
  obtain ⟨c2, A2, -, S2, M2, -⟩ := G
  cases A1.1.symm.trans A2.1
  rw [← len_of S1 M1, ← len_of S2 M2]
end Jvm.OwnRuns
namespace Jvm.Pilot.@@N@@
open Jvm Jvm.ClassFile Sem Op Lib Jvm.Free Jvm.Stand Jvm.LawKit Jvm.RoadKit Bundle Jvm.OwnRuns Jvm.Pilot.@@N@@.Jvm.D
def Q_rmOrd (Z : State) (a : Addr) (r : Int32) (h0 : Heap) (n0 : Nat) : Option Value → Heap → List Loc → Prop := (fun v h L => v = some (.int r) ∧ Fr n0 L ∧ h = h0)
theorem pn_java_lang_Enum : plainName "java/lang/Enum" = true := by first | (simp [plainName, overriddenIn]; done) | decide +kernel
theorem ef_jdk_37_method_2_R (m : MethodId) (x0 : Addr)  : entryFrame m #[(.ref x0)] 1 = mkF m 0 #[.val (.ref x0)] [] := by first | (simp [entryFrame, mkF, argsToLocals, Value.category]; done) | rfl
theorem d_jdk_37_method_2_0 : decode jdk_37_method_2_code 0 = .ok (.aload_n 0, 1) := by decide +kernel
theorem d_jdk_37_method_2_1 : decode jdk_37_method_2_code 1 = .ok (.getfield 7, 3) := by decide +kernel
theorem d_jdk_37_method_2_4 : decode jdk_37_method_2_code 4 = .ok (.ireturn, 1) := by decide +kernel
set_option maxRecDepth 65536 in
set_option maxHeartbeats 40000000 in
theorem rmOrd (l : Launch) (Z : State) (a0 : Array Value) (hw : ∀ d ∈ tables_1, d.before a0 Z = true) (ws : List Jvm.Cond) (a : Addr) (r : Int32) (h0 : Heap) (n0 : Nat) (Z0 : n0 ≤ h0.size) (F1 : Fld Z h0 a "java/lang/Enum" "ordinal" "I" (.int r)) :
    MetFree l (⟨"java/lang/Enum", "ordinal", "()I"⟩ : MethodName) (head1 (Jvm.Cond.code (⟨"java/lang/Enum", "ordinal", "()I"⟩ : MethodName) jdk_37_method_2_code 1 (some .int) :: ws) ({ frames := 0, cells := 0, slots := 0, locals := 0 } : Room)) (fun ar_ U => ar_ = #[(.ref a)] ∧ Z.Warmed39 U.vm ∧ U.heap = h0) (fun _ _ _ _ _ => True) (fun _ U o U' => Phi U (Q_rmOrd Z a r h0 n0) ({ frames := 0, cells := 0, slots := 0, locals := 0 } : Room).cells ({ frames := 0, cells := 0, slots := 0, locals := 0 } : Room).slots o U') := by
  refine MetFree.of_bodySF (plainFor_of_name pn_java_lang_Enum) hisR ?_
  intro p e s m args below meth c s₁ Bd hml0 hP hK
  obtain ⟨rfl, hZ, hh⟩ := hP
  have hx := Bd.exec
  have hby := Bd.bytes
  have hlk := Bd.notSynchronized
  have hml : c.maxLocals = 1 := hml0
  have hown : s.vm.findClass "java/lang/Enum" = some m.cls := findClass_of_methodNamed Bd.named
  have hown0 := hown
  have hnm := (name_of_methodNamed Bd.named Bd.method).1
  have hret := Bd.returns
  have X0 : Stand p l e ({ frames := 0, cells := 0, slots := 0, locals := 0 } : Room) s m #[(.ref a)] below meth c s₁ [] 0 0 := Stand.of_body Bd
  have e0 : s₁.heap = h0 := by rw [← hh, Bd.state]; rfl
  have N0 := Fr.nil n0
  have sz := Z0
  have K := Keep.refl h0 []
  show Runs p.tables e below (Phi s (Q_rmOrd Z a r h0 n0) ({ frames := 0, cells := 0, slots := 0, locals := 0 } : Room).cells ({ frames := 0, cells := 0, slots := 0, locals := 0 } : Room).slots) _
  refine Runs.st (fun t' k' => castTop (ef_jdk_37_method_2_R m a ) k') ?_
  show Runs p.tables e below _ (s₁.setTop (mkF m 0 #[.val (.ref a)] []))
  refine Runs.st (fun t' k' => XS.aloadN X0.here hx rfl (hb hby d_jdk_37_method_2_0) rfl rfl k') ?_
  show Runs p.tables e below _ (s₁.setTop (mkF m 1 #[.val (.ref a)] [(.ref a)]))
  obtain ⟨T1_, X1_, e1_, st1_⟩ := getF X0 hx hZ hown (host := "") (Or.inl (hw _ (List.mem_of_getElem? (i := 25) rfl))) Via.refl e0 F1 (g := (mkF m 1 #[.val (.ref a)] [(.ref a)])) rfl rfl (hb hby d_jdk_37_method_2_1)
  refine Runs.st (st1_) ?_
  show Runs p.tables e below _ (T1_.setTop (mkF m 4 #[.val (.ref a)] [(.int r)]))
  refine Runs.ret X1_ hlk (v := (some (.int r))) (fun h => by rw [hret] at h; cases h) (by decide) (by decide) ?_ (fun fs hr => retI X1_ hx hret (hb hby d_jdk_37_method_2_4) hr)
  try rw [e1_]
  exact ⟨rfl, N0, rfl⟩
def Q_rmMax (Z : State) (p1 : Int32) (q1 : Int32) (r : Int32) (h0 : Heap) (n0 : Nat) : Option Value → Heap → List Loc → Prop := (fun v h L => v = some (.int r) ∧ Fr n0 L ∧ h = h0)
theorem ef_jdk_29_method_65_II (m : MethodId) (x0 : Int32) (x1 : Int32)  : entryFrame m #[(.int x0), (.int x1)] 2 = mkF m 0 #[.val (.int x0), .val (.int x1)] [] := by first | (simp [entryFrame, mkF, argsToLocals, Value.category]; done) | rfl
theorem d_jdk_29_method_65_0 : decode jdk_29_method_65_code 0 = .ok (.iload_n 0, 1) := by decide +kernel
theorem d_jdk_29_method_65_1 : decode jdk_29_method_65_code 1 = .ok (.iload_n 1, 1) := by decide +kernel
theorem d_jdk_29_method_65_2 : decode jdk_29_method_65_code 2 = .ok (.if_icmp .lt 7, 3) := by decide +kernel
theorem d_jdk_29_method_65_9 : decode jdk_29_method_65_code 9 = .ok (.iload_n 1, 1) := by decide +kernel
theorem d_jdk_29_method_65_10 : decode jdk_29_method_65_code 10 = .ok (.ireturn, 1) := by decide +kernel
theorem d_jdk_29_method_65_5 : decode jdk_29_method_65_code 5 = .ok (.iload_n 0, 1) := by decide +kernel
theorem d_jdk_29_method_65_6 : decode jdk_29_method_65_code 6 = .ok (.goto 4, 3) := by decide +kernel
set_option maxRecDepth 65536 in
set_option maxHeartbeats 40000000 in
theorem rmMax (l : Launch) (Z : State) (a0 : Array Value) (hw : ∀ d ∈ tables_1, d.before a0 Z = true) (ws : List Jvm.Cond) (p1 : Int32) (q1 : Int32) (r : Int32) (h0 : Heap) (n0 : Nat) (Z0 : n0 ≤ h0.size) (hr : r = if p1 < q1 then q1 else p1) :
    MetFree l (⟨"java/lang/Math", "max", "(II)I"⟩ : MethodName) (head1 (Jvm.Cond.code (⟨"java/lang/Math", "max", "(II)I"⟩ : MethodName) jdk_29_method_65_code 2 (some .int) :: ws) ({ frames := 0, cells := 0, slots := 0, locals := 0 } : Room)) (fun ar_ U => ar_ = #[(.int p1), (.int q1)] ∧ Z.Warmed39 U.vm ∧ U.heap = h0) (fun _ _ _ _ _ => True) (fun _ U o U' => Phi U (Q_rmMax Z p1 q1 r h0 n0) ({ frames := 0, cells := 0, slots := 0, locals := 0 } : Room).cells ({ frames := 0, cells := 0, slots := 0, locals := 0 } : Room).slots o U') := by
  refine MetFree.of_bodySF (Jvm.Free.JP.mathPlain rfl (by decide +kernel)) hisR ?_
  intro p e s m args below meth c s₁ Bd hml0 hP hK
  obtain ⟨rfl, hZ, hh⟩ := hP
  have hx := Bd.exec
  have hby := Bd.bytes
  have hlk := Bd.notSynchronized
  have hml : c.maxLocals = 2 := hml0
  have hown : s.vm.findClass "java/lang/Math" = some m.cls := findClass_of_methodNamed Bd.named
  have hown0 := hown
  have hnm := (name_of_methodNamed Bd.named Bd.method).1
  have hret := Bd.returns
  have X0 : Stand p l e ({ frames := 0, cells := 0, slots := 0, locals := 0 } : Room) s m #[(.int p1), (.int q1)] below meth c s₁ [] 0 0 := Stand.of_body Bd
  have e0 : s₁.heap = h0 := by rw [← hh, Bd.state]; rfl
  have N0 := Fr.nil n0
  have sz := Z0
  have K := Keep.refl h0 []
  show Runs p.tables e below (Phi s (Q_rmMax Z p1 q1 r h0 n0) ({ frames := 0, cells := 0, slots := 0, locals := 0 } : Room).cells ({ frames := 0, cells := 0, slots := 0, locals := 0 } : Room).slots) _
  refine Runs.st (fun t' k' => castTop (ef_jdk_29_method_65_II m p1 q1 ) k') ?_
  show Runs p.tables e below _ (s₁.setTop (mkF m 0 #[.val (.int p1), .val (.int q1)] []))
  refine Runs.st (fun t' k' => XS.iloadN X0.here hx rfl (hb hby d_jdk_29_method_65_0) rfl k') ?_
  show Runs p.tables e below _ (s₁.setTop (mkF m 1 #[.val (.int p1), .val (.int q1)] [(.int p1)]))
  refine Runs.st (fun t' k' => XS.iloadN X0.here hx rfl (hb hby d_jdk_29_method_65_1) rfl k') ?_
  show Runs p.tables e below _ (s₁.setTop (mkF m 2 #[.val (.int p1), .val (.int q1)] [(.int q1), (.int p1)]))
  by_cases hc : p1 < q1
  · skip
    refine Runs.st (fun t' k' => XS.icmpYes X0.here hx rfl (pc0 := 2) (pc' := 9) rfl (hb hby d_jdk_29_method_65_2) rfl (tlt hc).1 (by decide) (by decide) k') ?_
    show Runs p.tables e below _ (s₁.setTop (mkF m 9 #[.val (.int p1), .val (.int q1)] []))
    refine Runs.st (fun t' k' => XS.iloadN X0.here hx rfl (hb hby d_jdk_29_method_65_9) rfl k') ?_
    show Runs p.tables e below _ (s₁.setTop (mkF m 10 #[.val (.int p1), .val (.int q1)] [(.int q1)]))
    refine Runs.ret X0 hlk (v := (some (.int q1))) (fun h => by rw [hret] at h; cases h) (by decide) (by decide) ?_ (fun fs hr => retI X0 hx hret (hb hby d_jdk_29_method_65_10) hr)
    try rw [e0]
    exact ⟨congrArg (fun z => some (Value.int z)) (hr.trans (if_pos hc)).symm, N0, rfl⟩
  · skip
    refine Runs.st (fun t' k' => XS.icmpNo X0.here hx rfl (hb hby d_jdk_29_method_65_2) rfl (flt hc).1 k') ?_
    show Runs p.tables e below _ (s₁.setTop (mkF m 5 #[.val (.int p1), .val (.int q1)] []))
    refine Runs.st (fun t' k' => XS.iloadN X0.here hx rfl (hb hby d_jdk_29_method_65_5) rfl k') ?_
    show Runs p.tables e below _ (s₁.setTop (mkF m 6 #[.val (.int p1), .val (.int q1)] [(.int p1)]))
    refine Runs.st (fun t' k' => XS.goto X0.here hx rfl (pc0 := 6) (pc' := 10) rfl (hb hby d_jdk_29_method_65_6) (by decide) (by decide) k') ?_
    show Runs p.tables e below _ (s₁.setTop (mkF m 10 #[.val (.int p1), .val (.int q1)] [(.int p1)]))
    refine Runs.ret X0 hlk (v := (some (.int p1))) (fun h => by rw [hret] at h; cases h) (by decide) (by decide) ?_ (fun fs hr => retI X0 hx hret (hb hby d_jdk_29_method_65_10) hr)
    try rw [e0]
    exact ⟨congrArg (fun z => some (Value.int z)) (hr.trans (if_neg hc)).symm, N0, rfl⟩
def Q_rmPick (Z : State) (k : Int32) (r oe one ol ole og oge : Addr) (h0 : Heap) (n0 : Nat) : Option Value → Heap → List Loc → Prop := (fun v h L => v = some (.ref r) ∧ Fr n0 L ∧ h = h0)
theorem pn_com_example_attribute_to_audience_attributetoaudience_model_OperatorIsEqualityPinLaw : plainName "com/example/attribute_to_audience/attributetoaudience/model/OperatorIsEqualityPinLaw" = true := by first | (simp [plainName, overriddenIn]; done) | decide +kernel
theorem ef_method_2_I (m : MethodId) (x0 : Int32)  : entryFrame m #[(.int x0)] 2 = mkF m 0 #[.val (.int x0), .unset] [] := by first | (simp [entryFrame, mkF, argsToLocals, Value.category]; done) | rfl
theorem d_method_2_0 : decode method_2_code 0 = .ok (.iload_n 0, 1) := by decide +kernel
theorem d_method_2_1 : decode method_2_code 1 = .ok (.ldc 7, 2) := by decide +kernel
theorem d_method_2_3 : decode method_2_code 3 = .ok (.iand, 1) := by decide +kernel
theorem d_method_2_4 : decode method_2_code 4 = .ok (.bipush 6, 2) := by decide +kernel
theorem d_method_2_6 : decode method_2_code 6 = .ok (.irem, 1) := by decide +kernel
theorem d_method_2_7 : decode method_2_code 7 = .ok (.istore_n 1, 1) := by decide +kernel
theorem d_method_2_8 : decode method_2_code 8 = .ok (.iload_n 1, 1) := by decide +kernel
theorem d_method_2_9 : decode method_2_code 9 = .ok (.ifCond .ne 7, 3) := by decide +kernel
theorem d_method_2_12 : decode method_2_code 12 = .ok (.getstatic 8, 3) := by decide +kernel
theorem d_method_2_15 : decode method_2_code 15 = .ok (.areturn, 1) := by decide +kernel
theorem d_method_2_16 : decode method_2_code 16 = .ok (.iload_n 1, 1) := by decide +kernel
theorem d_method_2_17 : decode method_2_code 17 = .ok (.iconst 1, 1) := by decide +kernel
theorem d_method_2_18 : decode method_2_code 18 = .ok (.if_icmp .ne 7, 3) := by decide +kernel
theorem d_method_2_21 : decode method_2_code 21 = .ok (.getstatic 14, 3) := by decide +kernel
theorem d_method_2_24 : decode method_2_code 24 = .ok (.areturn, 1) := by decide +kernel
theorem d_method_2_25 : decode method_2_code 25 = .ok (.iload_n 1, 1) := by decide +kernel
theorem d_method_2_26 : decode method_2_code 26 = .ok (.iconst 2, 1) := by decide +kernel
theorem d_method_2_27 : decode method_2_code 27 = .ok (.if_icmp .ne 7, 3) := by decide +kernel
theorem d_method_2_30 : decode method_2_code 30 = .ok (.getstatic 17, 3) := by decide +kernel
theorem d_method_2_33 : decode method_2_code 33 = .ok (.areturn, 1) := by decide +kernel
theorem d_method_2_34 : decode method_2_code 34 = .ok (.iload_n 1, 1) := by decide +kernel
theorem d_method_2_35 : decode method_2_code 35 = .ok (.iconst 3, 1) := by decide +kernel
theorem d_method_2_36 : decode method_2_code 36 = .ok (.if_icmp .ne 7, 3) := by decide +kernel
theorem d_method_2_39 : decode method_2_code 39 = .ok (.getstatic 20, 3) := by decide +kernel
theorem d_method_2_42 : decode method_2_code 42 = .ok (.areturn, 1) := by decide +kernel
theorem d_method_2_43 : decode method_2_code 43 = .ok (.iload_n 1, 1) := by decide +kernel
theorem d_method_2_44 : decode method_2_code 44 = .ok (.iconst 4, 1) := by decide +kernel
theorem d_method_2_45 : decode method_2_code 45 = .ok (.if_icmp .ne 7, 3) := by decide +kernel
theorem d_method_2_48 : decode method_2_code 48 = .ok (.getstatic 23, 3) := by decide +kernel
theorem d_method_2_51 : decode method_2_code 51 = .ok (.areturn, 1) := by decide +kernel
theorem d_method_2_52 : decode method_2_code 52 = .ok (.getstatic 26, 3) := by decide +kernel
theorem d_method_2_55 : decode method_2_code 55 = .ok (.areturn, 1) := by decide +kernel
set_option maxRecDepth 65536 in
set_option maxHeartbeats 40000000 in
theorem rmPick (l : Launch) (Z : State) (a0 : Array Value) (hw : ∀ d ∈ tables_1, d.before a0 Z = true) (ws : List Jvm.Cond) (k : Int32) (r oe one ol ole og oge : Addr) (h0 : Heap) (n0 : Nat) (Z0 : n0 ≤ h0.size) (S0 : Sta Z h0 "com/example/attribute_to_audience/attributetoaudience/model/Operator" "EQUAL" "Lcom/example/attribute_to_audience/attributetoaudience/model/Operator;" (.ref oe)) (S1 : Sta Z h0 "com/example/attribute_to_audience/attributetoaudience/model/Operator" "NOT_EQUAL" "Lcom/example/attribute_to_audience/attributetoaudience/model/Operator;" (.ref one)) (S2 : Sta Z h0 "com/example/attribute_to_audience/attributetoaudience/model/Operator" "LESS" "Lcom/example/attribute_to_audience/attributetoaudience/model/Operator;" (.ref ol)) (S3 : Sta Z h0 "com/example/attribute_to_audience/attributetoaudience/model/Operator" "LESS_OR_EQUAL" "Lcom/example/attribute_to_audience/attributetoaudience/model/Operator;" (.ref ole)) (S4 : Sta Z h0 "com/example/attribute_to_audience/attributetoaudience/model/Operator" "GREATER" "Lcom/example/attribute_to_audience/attributetoaudience/model/Operator;" (.ref og)) (S5 : Sta Z h0 "com/example/attribute_to_audience/attributetoaudience/model/Operator" "GREATER_OR_EQUAL" "Lcom/example/attribute_to_audience/attributetoaudience/model/Operator;" (.ref oge)) (hr : (((k &&& (2147483647 : Int32)) % (6 : Int32)) = (0 : Int32) ∧ r = oe) ∨ (((k &&& (2147483647 : Int32)) % (6 : Int32)) = (1 : Int32) ∧ r = one) ∨ (((k &&& (2147483647 : Int32)) % (6 : Int32)) = (2 : Int32) ∧ r = ol) ∨ (((k &&& (2147483647 : Int32)) % (6 : Int32)) = (3 : Int32) ∧ r = ole) ∨ (((k &&& (2147483647 : Int32)) % (6 : Int32)) = (4 : Int32) ∧ r = og) ∨ (((k &&& (2147483647 : Int32)) % (6 : Int32)) = (5 : Int32) ∧ r = oge)) :
    MetFree l (⟨"com/example/attribute_to_audience/attributetoaudience/model/OperatorIsEqualityPinLaw", "pick", "(I)Lcom/example/attribute_to_audience/attributetoaudience/model/Operator;"⟩ : MethodName) (head1 (Jvm.Cond.code (⟨"com/example/attribute_to_audience/attributetoaudience/model/OperatorIsEqualityPinLaw", "pick", "(I)Lcom/example/attribute_to_audience/attributetoaudience/model/Operator;"⟩ : MethodName) method_2_code 2 (some (.object "com/example/attribute_to_audience/attributetoaudience/model/Operator")) :: ws) ({ frames := 0, cells := 0, slots := 0, locals := 0 } : Room)) (fun ar_ U => ar_ = #[(.int k)] ∧ Z.Warmed39 U.vm ∧ U.heap = h0) (fun _ _ _ _ _ => True) (fun _ U o U' => Phi U (Q_rmPick Z k r oe one ol ole og oge h0 n0) ({ frames := 0, cells := 0, slots := 0, locals := 0 } : Room).cells ({ frames := 0, cells := 0, slots := 0, locals := 0 } : Room).slots o U') := by
  refine MetFree.of_bodySF (plainFor_of_name pn_com_example_attribute_to_audience_attributetoaudience_model_OperatorIsEqualityPinLaw) hisR ?_
  intro p e s m args below meth c s₁ Bd hml0 hP hK
  obtain ⟨rfl, hZ, hh⟩ := hP
  have hx := Bd.exec
  have hby := Bd.bytes
  have hlk := Bd.notSynchronized
  have hml : c.maxLocals = 2 := hml0
  have hown : s.vm.findClass "com/example/attribute_to_audience/attributetoaudience/model/OperatorIsEqualityPinLaw" = some m.cls := findClass_of_methodNamed Bd.named
  have hown0 := hown
  have hnm := (name_of_methodNamed Bd.named Bd.method).1
  have hret := Bd.returns
  have X0 : Stand p l e ({ frames := 0, cells := 0, slots := 0, locals := 0 } : Room) s m #[(.int k)] below meth c s₁ [] 0 0 := Stand.of_body Bd
  have e0 : s₁.heap = h0 := by rw [← hh, Bd.state]; rfl
  have N0 := Fr.nil n0
  have sz := Z0
  have K := Keep.refl h0 []
  show Runs p.tables e below (Phi s (Q_rmPick Z k r oe one ol ole og oge h0 n0) ({ frames := 0, cells := 0, slots := 0, locals := 0 } : Room).cells ({ frames := 0, cells := 0, slots := 0, locals := 0 } : Room).slots) _
  refine Runs.st (fun t' k' => castTop (ef_method_2_I m k ) k') ?_
  show Runs p.tables e below _ (s₁.setTop (mkF m 0 #[.val (.int k), .unset] []))
  refine Runs.st (fun t' k' => XS.iloadN X0.here hx rfl (hb hby d_method_2_0) rfl k') ?_
  show Runs p.tables e below _ (s₁.setTop (mkF m 1 #[.val (.int k), .unset] [(.int k)]))
  refine Runs.st (fun t' k' => X0.ldcInt hx hown (mvT hZ (hw _ (List.mem_of_getElem? (i := 4) rfl))) (g := (mkF m 1 #[.val (.int k), .unset] [(.int k)])) rfl (hb hby d_method_2_1) t' k') ?_
  show Runs p.tables e below _ (s₁.setTop (mkF m 3 #[.val (.int k), .unset] [(.int (2147483647 : Int32)), (.int k)]))
  refine Runs.st (fun t' k' => XS.iand X0.here hx rfl (hb hby d_method_2_3) rfl k') ?_
  show Runs p.tables e below _ (s₁.setTop (mkF m 4 #[.val (.int k), .unset] [(.int (k &&& (2147483647 : Int32)))]))
  refine Runs.st (fun t' k' => XS.bipush X0.here hx rfl (hb hby d_method_2_4) k') ?_
  show Runs p.tables e below _ (s₁.setTop (mkF m 6 #[.val (.int k), .unset] [(.int (6 : Int32)), (.int (k &&& (2147483647 : Int32)))]))
  refine Runs.st (fun t' k' => iremM X0 hx rfl (hb hby d_method_2_6) rfl (by decide) k') ?_
  show Runs p.tables e below _ (s₁.setTop (mkF m 7 #[.val (.int k), .unset] [(.int ((k &&& (2147483647 : Int32)) % (6 : Int32)))]))
  obtain ⟨j, hj⟩ : ∃ z : Int32, z = ((k &&& (2147483647 : Int32)) % (6 : Int32)) := ⟨_, rfl⟩
  rw [← hj]
  show Runs p.tables e below _ (s₁.setTop (mkF m 7 #[.val (.int k), .unset] [(.int j)]))
  rw [← hj] at hr
  clear hj
  rcases hr with ⟨rfl, rfl⟩ | ⟨rfl, rfl⟩ | ⟨rfl, rfl⟩ | ⟨rfl, rfl⟩ | ⟨rfl, rfl⟩ | ⟨rfl, rfl⟩
  · skip
    show Runs p.tables e below _ (s₁.setTop (mkF m 7 #[.val (.int k), .unset] [(.int (0 : Int32))]))
    refine Runs.st (fun t' k' => XS.istoreN X0.here hx rfl (hb hby d_method_2_7) rfl (l' := #[.val (.int k), .val (.int (0 : Int32))]) rfl k') ?_
    show Runs p.tables e below _ (s₁.setTop (mkF m 8 #[.val (.int k), .val (.int (0 : Int32))] []))
    refine Runs.st (fun t' k' => XS.iloadN X0.here hx rfl (hb hby d_method_2_8) rfl k') ?_
    show Runs p.tables e below _ (s₁.setTop (mkF m 9 #[.val (.int k), .val (.int (0 : Int32))] [(.int (0 : Int32))]))
    refine Runs.st (fun t' k' => XS.ifNo X0.here hx rfl (hb hby d_method_2_9) rfl ((if0 _ _).trans (teq rfl).2) k') ?_
    show Runs p.tables e below _ (s₁.setTop (mkF m 12 #[.val (.int k), .val (.int (0 : Int32))] []))
    obtain ⟨T1_, X1_, e1_, st1_⟩ := getS2 X0 hx hZ hown (host := "") (Or.inl (hw _ (List.mem_of_getElem? (i := 5) rfl))) Via.refl e0 S0 (g := (mkF m 12 #[.val (.int k), .val (.int (0 : Int32))] [])) rfl (hb hby d_method_2_12)
    refine Runs.st (st1_) ?_
    show Runs p.tables e below _ (T1_.setTop (mkF m 15 #[.val (.int k), .val (.int (0 : Int32))] [(.ref r)]))
    refine Runs.ret X1_ hlk (v := (some (.ref r))) (fun h => by rw [hret] at h; cases h) (by decide) (by decide) ?_ (fun fs hr => retOut X1_ hx hret rfl (Or.inr (Or.inr (Or.inr (Or.inr ⟨rfl, rfl, rfl⟩)))) (hb hby d_method_2_15) hr)
    try rw [e1_]
    exact ⟨rfl, N0, rfl⟩
  · skip
    show Runs p.tables e below _ (s₁.setTop (mkF m 7 #[.val (.int k), .unset] [(.int (1 : Int32))]))
    refine Runs.st (fun t' k' => XS.istoreN X0.here hx rfl (hb hby d_method_2_7) rfl (l' := #[.val (.int k), .val (.int (1 : Int32))]) rfl k') ?_
    show Runs p.tables e below _ (s₁.setTop (mkF m 8 #[.val (.int k), .val (.int (1 : Int32))] []))
    refine Runs.st (fun t' k' => XS.iloadN X0.here hx rfl (hb hby d_method_2_8) rfl k') ?_
    show Runs p.tables e below _ (s₁.setTop (mkF m 9 #[.val (.int k), .val (.int (1 : Int32))] [(.int (1 : Int32))]))
    refine Runs.st (fun t' k' => XS.ifYes X0.here hx rfl (pc0 := 9) (pc' := 16) rfl (hb hby d_method_2_9) rfl ((if0 _ _).trans (feq (by decide)).2) (by decide) (by decide) k') ?_
    show Runs p.tables e below _ (s₁.setTop (mkF m 16 #[.val (.int k), .val (.int (1 : Int32))] []))
    refine Runs.st (fun t' k' => XS.iloadN X0.here hx rfl (hb hby d_method_2_16) rfl k') ?_
    show Runs p.tables e below _ (s₁.setTop (mkF m 17 #[.val (.int k), .val (.int (1 : Int32))] [(.int (1 : Int32))]))
    refine Runs.st (fun t' k' => XS.iconst X0.here hx rfl (hb hby d_method_2_17) k') ?_
    show Runs p.tables e below _ (s₁.setTop (mkF m 18 #[.val (.int k), .val (.int (1 : Int32))] [(.int (1 : Int32)), (.int (1 : Int32))]))
    refine Runs.st (fun t' k' => XS.icmpNo X0.here hx rfl (hb hby d_method_2_18) rfl (teq rfl).2 k') ?_
    show Runs p.tables e below _ (s₁.setTop (mkF m 21 #[.val (.int k), .val (.int (1 : Int32))] []))
    obtain ⟨T2_, X2_, e2_, st2_⟩ := getS2 X0 hx hZ hown (host := "") (Or.inl (hw _ (List.mem_of_getElem? (i := 33) rfl))) Via.refl e0 S1 (g := (mkF m 21 #[.val (.int k), .val (.int (1 : Int32))] [])) rfl (hb hby d_method_2_21)
    refine Runs.st (st2_) ?_
    show Runs p.tables e below _ (T2_.setTop (mkF m 24 #[.val (.int k), .val (.int (1 : Int32))] [(.ref r)]))
    refine Runs.ret X2_ hlk (v := (some (.ref r))) (fun h => by rw [hret] at h; cases h) (by decide) (by decide) ?_ (fun fs hr => retOut X2_ hx hret rfl (Or.inr (Or.inr (Or.inr (Or.inr ⟨rfl, rfl, rfl⟩)))) (hb hby d_method_2_24) hr)
    try rw [e2_]
    exact ⟨rfl, N0, rfl⟩
  · skip
    show Runs p.tables e below _ (s₁.setTop (mkF m 7 #[.val (.int k), .unset] [(.int (2 : Int32))]))
    refine Runs.st (fun t' k' => XS.istoreN X0.here hx rfl (hb hby d_method_2_7) rfl (l' := #[.val (.int k), .val (.int (2 : Int32))]) rfl k') ?_
    show Runs p.tables e below _ (s₁.setTop (mkF m 8 #[.val (.int k), .val (.int (2 : Int32))] []))
    refine Runs.st (fun t' k' => XS.iloadN X0.here hx rfl (hb hby d_method_2_8) rfl k') ?_
    show Runs p.tables e below _ (s₁.setTop (mkF m 9 #[.val (.int k), .val (.int (2 : Int32))] [(.int (2 : Int32))]))
    refine Runs.st (fun t' k' => XS.ifYes X0.here hx rfl (pc0 := 9) (pc' := 16) rfl (hb hby d_method_2_9) rfl ((if0 _ _).trans (feq (by decide)).2) (by decide) (by decide) k') ?_
    show Runs p.tables e below _ (s₁.setTop (mkF m 16 #[.val (.int k), .val (.int (2 : Int32))] []))
    refine Runs.st (fun t' k' => XS.iloadN X0.here hx rfl (hb hby d_method_2_16) rfl k') ?_
    show Runs p.tables e below _ (s₁.setTop (mkF m 17 #[.val (.int k), .val (.int (2 : Int32))] [(.int (2 : Int32))]))
    refine Runs.st (fun t' k' => XS.iconst X0.here hx rfl (hb hby d_method_2_17) k') ?_
    show Runs p.tables e below _ (s₁.setTop (mkF m 18 #[.val (.int k), .val (.int (2 : Int32))] [(.int (1 : Int32)), (.int (2 : Int32))]))
    refine Runs.st (fun t' k' => XS.icmpYes X0.here hx rfl (pc0 := 18) (pc' := 25) rfl (hb hby d_method_2_18) rfl (feq (by decide)).2 (by decide) (by decide) k') ?_
    show Runs p.tables e below _ (s₁.setTop (mkF m 25 #[.val (.int k), .val (.int (2 : Int32))] []))
    refine Runs.st (fun t' k' => XS.iloadN X0.here hx rfl (hb hby d_method_2_25) rfl k') ?_
    show Runs p.tables e below _ (s₁.setTop (mkF m 26 #[.val (.int k), .val (.int (2 : Int32))] [(.int (2 : Int32))]))
    refine Runs.st (fun t' k' => XS.iconst X0.here hx rfl (hb hby d_method_2_26) k') ?_
    show Runs p.tables e below _ (s₁.setTop (mkF m 27 #[.val (.int k), .val (.int (2 : Int32))] [(.int (2 : Int32)), (.int (2 : Int32))]))
    refine Runs.st (fun t' k' => XS.icmpNo X0.here hx rfl (hb hby d_method_2_27) rfl (teq rfl).2 k') ?_
    show Runs p.tables e below _ (s₁.setTop (mkF m 30 #[.val (.int k), .val (.int (2 : Int32))] []))
    obtain ⟨T3_, X3_, e3_, st3_⟩ := getS2 X0 hx hZ hown (host := "") (Or.inl (hw _ (List.mem_of_getElem? (i := 36) rfl))) Via.refl e0 S2 (g := (mkF m 30 #[.val (.int k), .val (.int (2 : Int32))] [])) rfl (hb hby d_method_2_30)
    refine Runs.st (st3_) ?_
    show Runs p.tables e below _ (T3_.setTop (mkF m 33 #[.val (.int k), .val (.int (2 : Int32))] [(.ref r)]))
    refine Runs.ret X3_ hlk (v := (some (.ref r))) (fun h => by rw [hret] at h; cases h) (by decide) (by decide) ?_ (fun fs hr => retOut X3_ hx hret rfl (Or.inr (Or.inr (Or.inr (Or.inr ⟨rfl, rfl, rfl⟩)))) (hb hby d_method_2_33) hr)
    try rw [e3_]
    exact ⟨rfl, N0, rfl⟩
  · skip
    show Runs p.tables e below _ (s₁.setTop (mkF m 7 #[.val (.int k), .unset] [(.int (3 : Int32))]))
    refine Runs.st (fun t' k' => XS.istoreN X0.here hx rfl (hb hby d_method_2_7) rfl (l' := #[.val (.int k), .val (.int (3 : Int32))]) rfl k') ?_
    show Runs p.tables e below _ (s₁.setTop (mkF m 8 #[.val (.int k), .val (.int (3 : Int32))] []))
    refine Runs.st (fun t' k' => XS.iloadN X0.here hx rfl (hb hby d_method_2_8) rfl k') ?_
    show Runs p.tables e below _ (s₁.setTop (mkF m 9 #[.val (.int k), .val (.int (3 : Int32))] [(.int (3 : Int32))]))
    refine Runs.st (fun t' k' => XS.ifYes X0.here hx rfl (pc0 := 9) (pc' := 16) rfl (hb hby d_method_2_9) rfl ((if0 _ _).trans (feq (by decide)).2) (by decide) (by decide) k') ?_
    show Runs p.tables e below _ (s₁.setTop (mkF m 16 #[.val (.int k), .val (.int (3 : Int32))] []))
    refine Runs.st (fun t' k' => XS.iloadN X0.here hx rfl (hb hby d_method_2_16) rfl k') ?_
    show Runs p.tables e below _ (s₁.setTop (mkF m 17 #[.val (.int k), .val (.int (3 : Int32))] [(.int (3 : Int32))]))
    refine Runs.st (fun t' k' => XS.iconst X0.here hx rfl (hb hby d_method_2_17) k') ?_
    show Runs p.tables e below _ (s₁.setTop (mkF m 18 #[.val (.int k), .val (.int (3 : Int32))] [(.int (1 : Int32)), (.int (3 : Int32))]))
    refine Runs.st (fun t' k' => XS.icmpYes X0.here hx rfl (pc0 := 18) (pc' := 25) rfl (hb hby d_method_2_18) rfl (feq (by decide)).2 (by decide) (by decide) k') ?_
    show Runs p.tables e below _ (s₁.setTop (mkF m 25 #[.val (.int k), .val (.int (3 : Int32))] []))
    refine Runs.st (fun t' k' => XS.iloadN X0.here hx rfl (hb hby d_method_2_25) rfl k') ?_
    show Runs p.tables e below _ (s₁.setTop (mkF m 26 #[.val (.int k), .val (.int (3 : Int32))] [(.int (3 : Int32))]))
    refine Runs.st (fun t' k' => XS.iconst X0.here hx rfl (hb hby d_method_2_26) k') ?_
    show Runs p.tables e below _ (s₁.setTop (mkF m 27 #[.val (.int k), .val (.int (3 : Int32))] [(.int (2 : Int32)), (.int (3 : Int32))]))
    refine Runs.st (fun t' k' => XS.icmpYes X0.here hx rfl (pc0 := 27) (pc' := 34) rfl (hb hby d_method_2_27) rfl (feq (by decide)).2 (by decide) (by decide) k') ?_
    show Runs p.tables e below _ (s₁.setTop (mkF m 34 #[.val (.int k), .val (.int (3 : Int32))] []))
    refine Runs.st (fun t' k' => XS.iloadN X0.here hx rfl (hb hby d_method_2_34) rfl k') ?_
    show Runs p.tables e below _ (s₁.setTop (mkF m 35 #[.val (.int k), .val (.int (3 : Int32))] [(.int (3 : Int32))]))
    refine Runs.st (fun t' k' => XS.iconst X0.here hx rfl (hb hby d_method_2_35) k') ?_
    show Runs p.tables e below _ (s₁.setTop (mkF m 36 #[.val (.int k), .val (.int (3 : Int32))] [(.int (3 : Int32)), (.int (3 : Int32))]))
    refine Runs.st (fun t' k' => XS.icmpNo X0.here hx rfl (hb hby d_method_2_36) rfl (teq rfl).2 k') ?_
    show Runs p.tables e below _ (s₁.setTop (mkF m 39 #[.val (.int k), .val (.int (3 : Int32))] []))
    obtain ⟨T4_, X4_, e4_, st4_⟩ := getS2 X0 hx hZ hown (host := "") (Or.inl (hw _ (List.mem_of_getElem? (i := 40) rfl))) Via.refl e0 S3 (g := (mkF m 39 #[.val (.int k), .val (.int (3 : Int32))] [])) rfl (hb hby d_method_2_39)
    refine Runs.st (st4_) ?_
    show Runs p.tables e below _ (T4_.setTop (mkF m 42 #[.val (.int k), .val (.int (3 : Int32))] [(.ref r)]))
    refine Runs.ret X4_ hlk (v := (some (.ref r))) (fun h => by rw [hret] at h; cases h) (by decide) (by decide) ?_ (fun fs hr => retOut X4_ hx hret rfl (Or.inr (Or.inr (Or.inr (Or.inr ⟨rfl, rfl, rfl⟩)))) (hb hby d_method_2_42) hr)
    try rw [e4_]
    exact ⟨rfl, N0, rfl⟩
  · skip
    show Runs p.tables e below _ (s₁.setTop (mkF m 7 #[.val (.int k), .unset] [(.int (4 : Int32))]))
    refine Runs.st (fun t' k' => XS.istoreN X0.here hx rfl (hb hby d_method_2_7) rfl (l' := #[.val (.int k), .val (.int (4 : Int32))]) rfl k') ?_
    show Runs p.tables e below _ (s₁.setTop (mkF m 8 #[.val (.int k), .val (.int (4 : Int32))] []))
    refine Runs.st (fun t' k' => XS.iloadN X0.here hx rfl (hb hby d_method_2_8) rfl k') ?_
    show Runs p.tables e below _ (s₁.setTop (mkF m 9 #[.val (.int k), .val (.int (4 : Int32))] [(.int (4 : Int32))]))
    refine Runs.st (fun t' k' => XS.ifYes X0.here hx rfl (pc0 := 9) (pc' := 16) rfl (hb hby d_method_2_9) rfl ((if0 _ _).trans (feq (by decide)).2) (by decide) (by decide) k') ?_
    show Runs p.tables e below _ (s₁.setTop (mkF m 16 #[.val (.int k), .val (.int (4 : Int32))] []))
    refine Runs.st (fun t' k' => XS.iloadN X0.here hx rfl (hb hby d_method_2_16) rfl k') ?_
    show Runs p.tables e below _ (s₁.setTop (mkF m 17 #[.val (.int k), .val (.int (4 : Int32))] [(.int (4 : Int32))]))
    refine Runs.st (fun t' k' => XS.iconst X0.here hx rfl (hb hby d_method_2_17) k') ?_
    show Runs p.tables e below _ (s₁.setTop (mkF m 18 #[.val (.int k), .val (.int (4 : Int32))] [(.int (1 : Int32)), (.int (4 : Int32))]))
    refine Runs.st (fun t' k' => XS.icmpYes X0.here hx rfl (pc0 := 18) (pc' := 25) rfl (hb hby d_method_2_18) rfl (feq (by decide)).2 (by decide) (by decide) k') ?_
    show Runs p.tables e below _ (s₁.setTop (mkF m 25 #[.val (.int k), .val (.int (4 : Int32))] []))
    refine Runs.st (fun t' k' => XS.iloadN X0.here hx rfl (hb hby d_method_2_25) rfl k') ?_
    show Runs p.tables e below _ (s₁.setTop (mkF m 26 #[.val (.int k), .val (.int (4 : Int32))] [(.int (4 : Int32))]))
    refine Runs.st (fun t' k' => XS.iconst X0.here hx rfl (hb hby d_method_2_26) k') ?_
    show Runs p.tables e below _ (s₁.setTop (mkF m 27 #[.val (.int k), .val (.int (4 : Int32))] [(.int (2 : Int32)), (.int (4 : Int32))]))
    refine Runs.st (fun t' k' => XS.icmpYes X0.here hx rfl (pc0 := 27) (pc' := 34) rfl (hb hby d_method_2_27) rfl (feq (by decide)).2 (by decide) (by decide) k') ?_
    show Runs p.tables e below _ (s₁.setTop (mkF m 34 #[.val (.int k), .val (.int (4 : Int32))] []))
    refine Runs.st (fun t' k' => XS.iloadN X0.here hx rfl (hb hby d_method_2_34) rfl k') ?_
    show Runs p.tables e below _ (s₁.setTop (mkF m 35 #[.val (.int k), .val (.int (4 : Int32))] [(.int (4 : Int32))]))
    refine Runs.st (fun t' k' => XS.iconst X0.here hx rfl (hb hby d_method_2_35) k') ?_
    show Runs p.tables e below _ (s₁.setTop (mkF m 36 #[.val (.int k), .val (.int (4 : Int32))] [(.int (3 : Int32)), (.int (4 : Int32))]))
    refine Runs.st (fun t' k' => XS.icmpYes X0.here hx rfl (pc0 := 36) (pc' := 43) rfl (hb hby d_method_2_36) rfl (feq (by decide)).2 (by decide) (by decide) k') ?_
    show Runs p.tables e below _ (s₁.setTop (mkF m 43 #[.val (.int k), .val (.int (4 : Int32))] []))
    refine Runs.st (fun t' k' => XS.iloadN X0.here hx rfl (hb hby d_method_2_43) rfl k') ?_
    show Runs p.tables e below _ (s₁.setTop (mkF m 44 #[.val (.int k), .val (.int (4 : Int32))] [(.int (4 : Int32))]))
    refine Runs.st (fun t' k' => XS.iconst X0.here hx rfl (hb hby d_method_2_44) k') ?_
    show Runs p.tables e below _ (s₁.setTop (mkF m 45 #[.val (.int k), .val (.int (4 : Int32))] [(.int (4 : Int32)), (.int (4 : Int32))]))
    refine Runs.st (fun t' k' => XS.icmpNo X0.here hx rfl (hb hby d_method_2_45) rfl (teq rfl).2 k') ?_
    show Runs p.tables e below _ (s₁.setTop (mkF m 48 #[.val (.int k), .val (.int (4 : Int32))] []))
    obtain ⟨T5_, X5_, e5_, st5_⟩ := getS2 X0 hx hZ hown (host := "") (Or.inl (hw _ (List.mem_of_getElem? (i := 42) rfl))) Via.refl e0 S4 (g := (mkF m 48 #[.val (.int k), .val (.int (4 : Int32))] [])) rfl (hb hby d_method_2_48)
    refine Runs.st (st5_) ?_
    show Runs p.tables e below _ (T5_.setTop (mkF m 51 #[.val (.int k), .val (.int (4 : Int32))] [(.ref r)]))
    refine Runs.ret X5_ hlk (v := (some (.ref r))) (fun h => by rw [hret] at h; cases h) (by decide) (by decide) ?_ (fun fs hr => retOut X5_ hx hret rfl (Or.inr (Or.inr (Or.inr (Or.inr ⟨rfl, rfl, rfl⟩)))) (hb hby d_method_2_51) hr)
    try rw [e5_]
    exact ⟨rfl, N0, rfl⟩
  · skip
    show Runs p.tables e below _ (s₁.setTop (mkF m 7 #[.val (.int k), .unset] [(.int (5 : Int32))]))
    refine Runs.st (fun t' k' => XS.istoreN X0.here hx rfl (hb hby d_method_2_7) rfl (l' := #[.val (.int k), .val (.int (5 : Int32))]) rfl k') ?_
    show Runs p.tables e below _ (s₁.setTop (mkF m 8 #[.val (.int k), .val (.int (5 : Int32))] []))
    refine Runs.st (fun t' k' => XS.iloadN X0.here hx rfl (hb hby d_method_2_8) rfl k') ?_
    show Runs p.tables e below _ (s₁.setTop (mkF m 9 #[.val (.int k), .val (.int (5 : Int32))] [(.int (5 : Int32))]))
    refine Runs.st (fun t' k' => XS.ifYes X0.here hx rfl (pc0 := 9) (pc' := 16) rfl (hb hby d_method_2_9) rfl ((if0 _ _).trans (feq (by decide)).2) (by decide) (by decide) k') ?_
    show Runs p.tables e below _ (s₁.setTop (mkF m 16 #[.val (.int k), .val (.int (5 : Int32))] []))
    refine Runs.st (fun t' k' => XS.iloadN X0.here hx rfl (hb hby d_method_2_16) rfl k') ?_
    show Runs p.tables e below _ (s₁.setTop (mkF m 17 #[.val (.int k), .val (.int (5 : Int32))] [(.int (5 : Int32))]))
    refine Runs.st (fun t' k' => XS.iconst X0.here hx rfl (hb hby d_method_2_17) k') ?_
    show Runs p.tables e below _ (s₁.setTop (mkF m 18 #[.val (.int k), .val (.int (5 : Int32))] [(.int (1 : Int32)), (.int (5 : Int32))]))
    refine Runs.st (fun t' k' => XS.icmpYes X0.here hx rfl (pc0 := 18) (pc' := 25) rfl (hb hby d_method_2_18) rfl (feq (by decide)).2 (by decide) (by decide) k') ?_
    show Runs p.tables e below _ (s₁.setTop (mkF m 25 #[.val (.int k), .val (.int (5 : Int32))] []))
    refine Runs.st (fun t' k' => XS.iloadN X0.here hx rfl (hb hby d_method_2_25) rfl k') ?_
    show Runs p.tables e below _ (s₁.setTop (mkF m 26 #[.val (.int k), .val (.int (5 : Int32))] [(.int (5 : Int32))]))
    refine Runs.st (fun t' k' => XS.iconst X0.here hx rfl (hb hby d_method_2_26) k') ?_
    show Runs p.tables e below _ (s₁.setTop (mkF m 27 #[.val (.int k), .val (.int (5 : Int32))] [(.int (2 : Int32)), (.int (5 : Int32))]))
    refine Runs.st (fun t' k' => XS.icmpYes X0.here hx rfl (pc0 := 27) (pc' := 34) rfl (hb hby d_method_2_27) rfl (feq (by decide)).2 (by decide) (by decide) k') ?_
    show Runs p.tables e below _ (s₁.setTop (mkF m 34 #[.val (.int k), .val (.int (5 : Int32))] []))
    refine Runs.st (fun t' k' => XS.iloadN X0.here hx rfl (hb hby d_method_2_34) rfl k') ?_
    show Runs p.tables e below _ (s₁.setTop (mkF m 35 #[.val (.int k), .val (.int (5 : Int32))] [(.int (5 : Int32))]))
    refine Runs.st (fun t' k' => XS.iconst X0.here hx rfl (hb hby d_method_2_35) k') ?_
    show Runs p.tables e below _ (s₁.setTop (mkF m 36 #[.val (.int k), .val (.int (5 : Int32))] [(.int (3 : Int32)), (.int (5 : Int32))]))
    refine Runs.st (fun t' k' => XS.icmpYes X0.here hx rfl (pc0 := 36) (pc' := 43) rfl (hb hby d_method_2_36) rfl (feq (by decide)).2 (by decide) (by decide) k') ?_
    show Runs p.tables e below _ (s₁.setTop (mkF m 43 #[.val (.int k), .val (.int (5 : Int32))] []))
    refine Runs.st (fun t' k' => XS.iloadN X0.here hx rfl (hb hby d_method_2_43) rfl k') ?_
    show Runs p.tables e below _ (s₁.setTop (mkF m 44 #[.val (.int k), .val (.int (5 : Int32))] [(.int (5 : Int32))]))
    refine Runs.st (fun t' k' => XS.iconst X0.here hx rfl (hb hby d_method_2_44) k') ?_
    show Runs p.tables e below _ (s₁.setTop (mkF m 45 #[.val (.int k), .val (.int (5 : Int32))] [(.int (4 : Int32)), (.int (5 : Int32))]))
    refine Runs.st (fun t' k' => XS.icmpYes X0.here hx rfl (pc0 := 45) (pc' := 52) rfl (hb hby d_method_2_45) rfl (feq (by decide)).2 (by decide) (by decide) k') ?_
    show Runs p.tables e below _ (s₁.setTop (mkF m 52 #[.val (.int k), .val (.int (5 : Int32))] []))
    obtain ⟨T6_, X6_, e6_, st6_⟩ := getS2 X0 hx hZ hown (host := "") (Or.inl (hw _ (List.mem_of_getElem? (i := 38) rfl))) Via.refl e0 S5 (g := (mkF m 52 #[.val (.int k), .val (.int (5 : Int32))] [])) rfl (hb hby d_method_2_52)
    refine Runs.st (st6_) ?_
    show Runs p.tables e below _ (T6_.setTop (mkF m 55 #[.val (.int k), .val (.int (5 : Int32))] [(.ref r)]))
    refine Runs.ret X6_ hlk (v := (some (.ref r))) (fun h => by rw [hret] at h; cases h) (by decide) (by decide) ?_ (fun fs hr => retOut X6_ hx hret rfl (Or.inr (Or.inr (Or.inr (Or.inr ⟨rfl, rfl, rfl⟩)))) (hb hby d_method_2_55) hr)
    try rw [e6_]
    exact ⟨rfl, N0, rfl⟩
def Q_rmHolds (Z : State) (a : Addr) (n : Int32) (o_ r : Int32) (h0 : Heap) (n0 : Nat) : Option Value → Heap → List Loc → Prop := (fun v h L => v = some (.int r) ∧ Fr n0 L ∧ h = h0)
theorem pn_com_example_attribute_to_audience_attributetoaudience_model_Operator : plainName "com/example/attribute_to_audience/attributetoaudience/model/Operator" = true := by first | (simp [plainName, overriddenIn]; done) | decide +kernel
theorem ef_prog_60_method_6_RI (m : MethodId) (x0 : Addr) (x1 : Int32)  : entryFrame m #[(.ref x0), (.int x1)] 2 = mkF m 0 #[.val (.ref x0), .val (.int x1)] [] := by first | (simp [entryFrame, mkF, argsToLocals, Value.category]; done) | rfl
theorem d_prog_60_method_6_0 : decode prog_60_method_6_code 0 = .ok (.aload_n 0, 1) := by decide +kernel
theorem pd__28_29I : parseMethodDescriptor "()I" = some ⟨[], some .int⟩ := by decide +kernel
theorem d_prog_60_method_6_1 : decode prog_60_method_6_code 1 = .ok (.invokevirtual 45, 3) := by decide +kernel
theorem d_prog_60_method_6_4 : decode prog_60_method_6_code 4 = .ok (.tableswitch 40 0 5 #[50, 62, 74, 86, 98, 110], 40) := by decide +kernel
theorem d_prog_60_method_6_54 : decode prog_60_method_6_code 54 = .ok (.iload_n 1, 1) := by decide +kernel
theorem d_prog_60_method_6_55 : decode prog_60_method_6_code 55 = .ok (.ifCond .ne 7, 3) := by decide +kernel
theorem d_prog_60_method_6_58 : decode prog_60_method_6_code 58 = .ok (.iconst 1, 1) := by decide +kernel
theorem d_prog_60_method_6_59 : decode prog_60_method_6_code 59 = .ok (.goto 64, 3) := by decide +kernel
theorem d_prog_60_method_6_123 : decode prog_60_method_6_code 123 = .ok (.ireturn, 1) := by decide +kernel
theorem d_prog_60_method_6_62 : decode prog_60_method_6_code 62 = .ok (.iconst 0, 1) := by decide +kernel
theorem d_prog_60_method_6_63 : decode prog_60_method_6_code 63 = .ok (.goto 60, 3) := by decide +kernel
theorem d_prog_60_method_6_66 : decode prog_60_method_6_code 66 = .ok (.iload_n 1, 1) := by decide +kernel
theorem d_prog_60_method_6_67 : decode prog_60_method_6_code 67 = .ok (.ifCond .eq 7, 3) := by decide +kernel
theorem d_prog_60_method_6_74 : decode prog_60_method_6_code 74 = .ok (.iconst 0, 1) := by decide +kernel
theorem d_prog_60_method_6_75 : decode prog_60_method_6_code 75 = .ok (.goto 48, 3) := by decide +kernel
theorem d_prog_60_method_6_70 : decode prog_60_method_6_code 70 = .ok (.iconst 1, 1) := by decide +kernel
theorem d_prog_60_method_6_71 : decode prog_60_method_6_code 71 = .ok (.goto 52, 3) := by decide +kernel
theorem d_prog_60_method_6_78 : decode prog_60_method_6_code 78 = .ok (.iload_n 1, 1) := by decide +kernel
theorem d_prog_60_method_6_79 : decode prog_60_method_6_code 79 = .ok (.ifCond .ge 7, 3) := by decide +kernel
theorem d_prog_60_method_6_82 : decode prog_60_method_6_code 82 = .ok (.iconst 1, 1) := by decide +kernel
theorem d_prog_60_method_6_83 : decode prog_60_method_6_code 83 = .ok (.goto 40, 3) := by decide +kernel
theorem d_prog_60_method_6_86 : decode prog_60_method_6_code 86 = .ok (.iconst 0, 1) := by decide +kernel
theorem d_prog_60_method_6_87 : decode prog_60_method_6_code 87 = .ok (.goto 36, 3) := by decide +kernel
theorem d_prog_60_method_6_90 : decode prog_60_method_6_code 90 = .ok (.iload_n 1, 1) := by decide +kernel
theorem d_prog_60_method_6_91 : decode prog_60_method_6_code 91 = .ok (.ifCond .gt 7, 3) := by decide +kernel
theorem d_prog_60_method_6_98 : decode prog_60_method_6_code 98 = .ok (.iconst 0, 1) := by decide +kernel
theorem d_prog_60_method_6_99 : decode prog_60_method_6_code 99 = .ok (.goto 24, 3) := by decide +kernel
theorem d_prog_60_method_6_94 : decode prog_60_method_6_code 94 = .ok (.iconst 1, 1) := by decide +kernel
theorem d_prog_60_method_6_95 : decode prog_60_method_6_code 95 = .ok (.goto 28, 3) := by decide +kernel
theorem d_prog_60_method_6_102 : decode prog_60_method_6_code 102 = .ok (.iload_n 1, 1) := by decide +kernel
theorem d_prog_60_method_6_103 : decode prog_60_method_6_code 103 = .ok (.ifCond .le 7, 3) := by decide +kernel
theorem d_prog_60_method_6_106 : decode prog_60_method_6_code 106 = .ok (.iconst 1, 1) := by decide +kernel
theorem d_prog_60_method_6_107 : decode prog_60_method_6_code 107 = .ok (.goto 16, 3) := by decide +kernel
theorem d_prog_60_method_6_110 : decode prog_60_method_6_code 110 = .ok (.iconst 0, 1) := by decide +kernel
theorem d_prog_60_method_6_111 : decode prog_60_method_6_code 111 = .ok (.goto 12, 3) := by decide +kernel
theorem d_prog_60_method_6_114 : decode prog_60_method_6_code 114 = .ok (.iload_n 1, 1) := by decide +kernel
theorem d_prog_60_method_6_115 : decode prog_60_method_6_code 115 = .ok (.ifCond .lt 7, 3) := by decide +kernel
theorem d_prog_60_method_6_122 : decode prog_60_method_6_code 122 = .ok (.iconst 0, 1) := by decide +kernel
theorem d_prog_60_method_6_118 : decode prog_60_method_6_code 118 = .ok (.iconst 1, 1) := by decide +kernel
theorem d_prog_60_method_6_119 : decode prog_60_method_6_code 119 = .ok (.goto 4, 3) := by decide +kernel
set_option maxRecDepth 65536 in
set_option maxHeartbeats 40000000 in
theorem rmHolds (l : Launch) (Z : State) (a0 : Array Value) (hw : ∀ d ∈ tables_1, d.before a0 Z = true) (ws : List Jvm.Cond) (a : Addr) (n : Int32) (o_ r : Int32) (h0 : Heap) (n0 : Nat) (Z0 : n0 ≤ h0.size) (E_a : Exa Z h0 a "com/example/attribute_to_audience/attributetoaudience/model/Operator") (F1 : Fld Z h0 a "java/lang/Enum" "ordinal" "I" (.int o_)) (hr : (o_ = (0 : Int32) ∧ (((n = (0 : Int32)) ∧ r = (1 : Int32)) ∨ (¬ (n = (0 : Int32)) ∧ r = (0 : Int32)))) ∨ (o_ = (1 : Int32) ∧ (((n = (0 : Int32)) ∧ r = (0 : Int32)) ∨ (¬ (n = (0 : Int32)) ∧ r = (1 : Int32)))) ∨ (o_ = (2 : Int32) ∧ (((n < (0 : Int32)) ∧ r = (1 : Int32)) ∨ (¬ (n < (0 : Int32)) ∧ r = (0 : Int32)))) ∨ (o_ = (3 : Int32) ∧ ((((0 : Int32) < n) ∧ r = (0 : Int32)) ∨ (¬ ((0 : Int32) < n) ∧ r = (1 : Int32)))) ∨ (o_ = (4 : Int32) ∧ ((((0 : Int32) < n) ∧ r = (1 : Int32)) ∨ (¬ ((0 : Int32) < n) ∧ r = (0 : Int32)))) ∨ (o_ = (5 : Int32) ∧ (((n < (0 : Int32)) ∧ r = (0 : Int32)) ∨ (¬ (n < (0 : Int32)) ∧ r = (1 : Int32))))) :
    MetFree l (⟨"com/example/attribute_to_audience/attributetoaudience/model/Operator", "holds", "(I)Z"⟩ : MethodName) (head1 (Jvm.Cond.code (⟨"com/example/attribute_to_audience/attributetoaudience/model/Operator", "holds", "(I)Z"⟩ : MethodName) prog_60_method_6_code 2 (some .boolean) :: ws) ({ frames := 1, cells := 0, slots := 0, locals := 12 } : Room)) (fun ar_ U => ar_ = #[(.ref a), (.int n)] ∧ Z.Warmed39 U.vm ∧ U.heap = h0) (fun _ _ _ _ _ => True) (fun _ U o U' => Phi U (Q_rmHolds Z a n o_ r h0 n0) ({ frames := 1, cells := 0, slots := 0, locals := 12 } : Room).cells ({ frames := 1, cells := 0, slots := 0, locals := 12 } : Room).slots o U') := by
  refine MetFree.of_bodySF (plainFor_of_name pn_com_example_attribute_to_audience_attributetoaudience_model_Operator) hisR ?_
  intro p e s m args below meth c s₁ Bd hml0 hP hK
  obtain ⟨rfl, hZ, hh⟩ := hP
  have hx := Bd.exec
  have hby := Bd.bytes
  have hlk := Bd.notSynchronized
  have hml : c.maxLocals = 2 := hml0
  have hown : s.vm.findClass "com/example/attribute_to_audience/attributetoaudience/model/Operator" = some m.cls := findClass_of_methodNamed Bd.named
  have hown0 := hown
  have hnm := (name_of_methodNamed Bd.named Bd.method).1
  have hret := Bd.returns
  have X0 : Stand p l e ({ frames := 1, cells := 0, slots := 0, locals := 12 } : Room) s m #[(.ref a), (.int n)] below meth c s₁ [] 0 0 := Stand.of_body Bd
  have e0 : s₁.heap = h0 := by rw [← hh, Bd.state]; rfl
  have N0 := Fr.nil n0
  have sz := Z0
  have K := Keep.refl h0 []
  show Runs p.tables e below (Phi s (Q_rmHolds Z a n o_ r h0 n0) ({ frames := 1, cells := 0, slots := 0, locals := 12 } : Room).cells ({ frames := 1, cells := 0, slots := 0, locals := 12 } : Room).slots) _
  refine Runs.st (fun t' k' => castTop (ef_prog_60_method_6_RI m a n ) k') ?_
  show Runs p.tables e below _ (s₁.setTop (mkF m 0 #[.val (.ref a), .val (.int n)] []))
  refine Runs.st (fun t' k' => XS.aloadN X0.here hx rfl (hb hby d_prog_60_method_6_0) rfl rfl k') ?_
  show Runs p.tables e below _ (s₁.setTop (mkF m 1 #[.val (.ref a), .val (.int n)] [(.ref a)]))
  obtain ⟨cq1_, kq1_, q1_a, q1_b, q1_c⟩ := isOf hZ e0 E_a
  obtain ⟨_, _, ⟨T1_, L1_, k1_, n1_⟩, -, X1_, ⟨Lc1_, hQ1_, l1_, y1_, z1_⟩, st1_⟩ := X0.virtualBackUp hx (x := (⟨"com/example/attribute_to_audience/attributetoaudience/model/Operator", "ordinal", "()I"⟩ : MethodName)) (y := (⟨"java/lang/Enum", "ordinal", "()I"⟩ : MethodName)) (owner := "java/lang/Enum") hown (mvT hZ (hw _ (List.mem_of_getElem? (i := 18) rfl))) (mvT hZ (hw _ (List.mem_of_getElem? (i := 19) rfl))) (mvT hZ (hw _ (List.mem_of_getElem? (i := 20) rfl))) (by decide) (mvT hZ (hw _ (List.mem_of_getElem? (i := 22) rfl))) (mvT hZ (hw _ (List.mem_of_getElem? (i := 21) rfl))) (backOf (W := 0) (rmOrd l Z a0 hw [] a o_ h0 n0 sz F1) hZ (hw _ (List.mem_of_getElem? (i := 24) rfl)) (hw _ (List.mem_of_getElem? (i := 23) rfl)) (by decide) (by decide)) q1_a q1_c (g := (mkF m 1 #[.val (.ref a), .val (.int n)] [(.ref a)])) rfl (by rw [hml]; rfl) (Steps.refl _) (argsL := []) (rest := []) (lenOf pd__28_29I rfl) rfl (by show 2 * 0 + _ ≤ _; exact Nat.le_of_eq rfl) (hb hby d_prog_60_method_6_1) (fun _ _ => ⟨rfl, e0, (by decide : 0 + 0 ≤ _), (by decide : 0 + 0 ≤ _)⟩)
  dsimp only [Pt.U, Pt.locs, Pt.cells, Pt.slots] at X1_ l1_ y1_ z1_ st1_ hQ1_
  subst l1_ y1_ z1_
  obtain ⟨rfl, N1_q, e1_⟩ := hQ1_
  have N1_ := Fr.app N0 N1_q
  refine Runs.tr st1_ ?_
  replace X1_ := wider X1_ (c' := 0) (s' := 0) (by decide) (by decide)
  show Runs p.tables e below _ (T1_.setTop (mkF m 4 #[.val (.ref a), .val (.int n)] [(.int o_)]))
  rcases hr with ⟨rfl, ⟨hc, rfl⟩ | ⟨hc, rfl⟩⟩ | ⟨rfl, ⟨hc, rfl⟩ | ⟨hc, rfl⟩⟩ | ⟨rfl, ⟨hc, rfl⟩ | ⟨hc, rfl⟩⟩ | ⟨rfl, ⟨hc, rfl⟩ | ⟨hc, rfl⟩⟩ | ⟨rfl, ⟨hc, rfl⟩ | ⟨hc, rfl⟩⟩ | ⟨rfl, ⟨hc, rfl⟩ | ⟨hc, rfl⟩⟩
  · skip
    show Runs p.tables e below _ (T1_.setTop (mkF m 4 #[.val (.ref a), .val (.int n)] [(.int (0 : Int32))]))
    refine Runs.st (fun t' k' => XS.tswIn X1_.here hx rfl (o := 50) (pc0 := 4) (pc' := 54) rfl (hb hby d_prog_60_method_6_4) rfl (by decide) rfl (by decide) (by decide) k') ?_
    show Runs p.tables e below _ (T1_.setTop (mkF m 54 #[.val (.ref a), .val (.int n)] []))
    refine Runs.st (fun t' k' => XS.iloadN X1_.here hx rfl (hb hby d_prog_60_method_6_54) rfl k') ?_
    show Runs p.tables e below _ (T1_.setTop (mkF m 55 #[.val (.ref a), .val (.int n)] [(.int n)]))
    refine Runs.st (fun t' k' => XS.ifNo X1_.here hx rfl (hb hby d_prog_60_method_6_55) rfl ((if0 _ _).trans (teq hc).2) k') ?_
    show Runs p.tables e below _ (T1_.setTop (mkF m 58 #[.val (.ref a), .val (.int n)] []))
    refine Runs.st (fun t' k' => XS.iconst X1_.here hx rfl (hb hby d_prog_60_method_6_58) k') ?_
    show Runs p.tables e below _ (T1_.setTop (mkF m 59 #[.val (.ref a), .val (.int n)] [(.int (1 : Int32))]))
    refine Runs.st (fun t' k' => XS.goto X1_.here hx rfl (pc0 := 59) (pc' := 123) rfl (hb hby d_prog_60_method_6_59) (by decide) (by decide) k') ?_
    show Runs p.tables e below _ (T1_.setTop (mkF m 123 #[.val (.ref a), .val (.int n)] [(.int (1 : Int32))]))
    refine Runs.ret X1_ hlk (v := (some (.int (1 : Int32)))) (fun h => by rw [hret] at h; cases h) (by decide) (by decide) ?_ (fun fs hr => retN X1_ hx (t := .boolean) hret (by simp) (hb hby d_prog_60_method_6_123) hr)
    try rw [e1_]
    exact ⟨rfl, N1_, rfl⟩
  · skip
    show Runs p.tables e below _ (T1_.setTop (mkF m 4 #[.val (.ref a), .val (.int n)] [(.int (0 : Int32))]))
    refine Runs.st (fun t' k' => XS.tswIn X1_.here hx rfl (o := 50) (pc0 := 4) (pc' := 54) rfl (hb hby d_prog_60_method_6_4) rfl (by decide) rfl (by decide) (by decide) k') ?_
    show Runs p.tables e below _ (T1_.setTop (mkF m 54 #[.val (.ref a), .val (.int n)] []))
    refine Runs.st (fun t' k' => XS.iloadN X1_.here hx rfl (hb hby d_prog_60_method_6_54) rfl k') ?_
    show Runs p.tables e below _ (T1_.setTop (mkF m 55 #[.val (.ref a), .val (.int n)] [(.int n)]))
    refine Runs.st (fun t' k' => XS.ifYes X1_.here hx rfl (pc0 := 55) (pc' := 62) rfl (hb hby d_prog_60_method_6_55) rfl ((if0 _ _).trans (feq hc).2) (by decide) (by decide) k') ?_
    show Runs p.tables e below _ (T1_.setTop (mkF m 62 #[.val (.ref a), .val (.int n)] []))
    refine Runs.st (fun t' k' => XS.iconst X1_.here hx rfl (hb hby d_prog_60_method_6_62) k') ?_
    show Runs p.tables e below _ (T1_.setTop (mkF m 63 #[.val (.ref a), .val (.int n)] [(.int (0 : Int32))]))
    refine Runs.st (fun t' k' => XS.goto X1_.here hx rfl (pc0 := 63) (pc' := 123) rfl (hb hby d_prog_60_method_6_63) (by decide) (by decide) k') ?_
    show Runs p.tables e below _ (T1_.setTop (mkF m 123 #[.val (.ref a), .val (.int n)] [(.int (0 : Int32))]))
    refine Runs.ret X1_ hlk (v := (some (.int (0 : Int32)))) (fun h => by rw [hret] at h; cases h) (by decide) (by decide) ?_ (fun fs hr => retN X1_ hx (t := .boolean) hret (by simp) (hb hby d_prog_60_method_6_123) hr)
    try rw [e1_]
    exact ⟨rfl, N1_, rfl⟩
  · skip
    show Runs p.tables e below _ (T1_.setTop (mkF m 4 #[.val (.ref a), .val (.int n)] [(.int (1 : Int32))]))
    refine Runs.st (fun t' k' => XS.tswIn X1_.here hx rfl (o := 62) (pc0 := 4) (pc' := 66) rfl (hb hby d_prog_60_method_6_4) rfl (by decide) rfl (by decide) (by decide) k') ?_
    show Runs p.tables e below _ (T1_.setTop (mkF m 66 #[.val (.ref a), .val (.int n)] []))
    refine Runs.st (fun t' k' => XS.iloadN X1_.here hx rfl (hb hby d_prog_60_method_6_66) rfl k') ?_
    show Runs p.tables e below _ (T1_.setTop (mkF m 67 #[.val (.ref a), .val (.int n)] [(.int n)]))
    refine Runs.st (fun t' k' => XS.ifYes X1_.here hx rfl (pc0 := 67) (pc' := 74) rfl (hb hby d_prog_60_method_6_67) rfl ((if0 _ _).trans (teq hc).1) (by decide) (by decide) k') ?_
    show Runs p.tables e below _ (T1_.setTop (mkF m 74 #[.val (.ref a), .val (.int n)] []))
    refine Runs.st (fun t' k' => XS.iconst X1_.here hx rfl (hb hby d_prog_60_method_6_74) k') ?_
    show Runs p.tables e below _ (T1_.setTop (mkF m 75 #[.val (.ref a), .val (.int n)] [(.int (0 : Int32))]))
    refine Runs.st (fun t' k' => XS.goto X1_.here hx rfl (pc0 := 75) (pc' := 123) rfl (hb hby d_prog_60_method_6_75) (by decide) (by decide) k') ?_
    show Runs p.tables e below _ (T1_.setTop (mkF m 123 #[.val (.ref a), .val (.int n)] [(.int (0 : Int32))]))
    refine Runs.ret X1_ hlk (v := (some (.int (0 : Int32)))) (fun h => by rw [hret] at h; cases h) (by decide) (by decide) ?_ (fun fs hr => retN X1_ hx (t := .boolean) hret (by simp) (hb hby d_prog_60_method_6_123) hr)
    try rw [e1_]
    exact ⟨rfl, N1_, rfl⟩
  · skip
    show Runs p.tables e below _ (T1_.setTop (mkF m 4 #[.val (.ref a), .val (.int n)] [(.int (1 : Int32))]))
    refine Runs.st (fun t' k' => XS.tswIn X1_.here hx rfl (o := 62) (pc0 := 4) (pc' := 66) rfl (hb hby d_prog_60_method_6_4) rfl (by decide) rfl (by decide) (by decide) k') ?_
    show Runs p.tables e below _ (T1_.setTop (mkF m 66 #[.val (.ref a), .val (.int n)] []))
    refine Runs.st (fun t' k' => XS.iloadN X1_.here hx rfl (hb hby d_prog_60_method_6_66) rfl k') ?_
    show Runs p.tables e below _ (T1_.setTop (mkF m 67 #[.val (.ref a), .val (.int n)] [(.int n)]))
    refine Runs.st (fun t' k' => XS.ifNo X1_.here hx rfl (hb hby d_prog_60_method_6_67) rfl ((if0 _ _).trans (feq hc).1) k') ?_
    show Runs p.tables e below _ (T1_.setTop (mkF m 70 #[.val (.ref a), .val (.int n)] []))
    refine Runs.st (fun t' k' => XS.iconst X1_.here hx rfl (hb hby d_prog_60_method_6_70) k') ?_
    show Runs p.tables e below _ (T1_.setTop (mkF m 71 #[.val (.ref a), .val (.int n)] [(.int (1 : Int32))]))
    refine Runs.st (fun t' k' => XS.goto X1_.here hx rfl (pc0 := 71) (pc' := 123) rfl (hb hby d_prog_60_method_6_71) (by decide) (by decide) k') ?_
    show Runs p.tables e below _ (T1_.setTop (mkF m 123 #[.val (.ref a), .val (.int n)] [(.int (1 : Int32))]))
    refine Runs.ret X1_ hlk (v := (some (.int (1 : Int32)))) (fun h => by rw [hret] at h; cases h) (by decide) (by decide) ?_ (fun fs hr => retN X1_ hx (t := .boolean) hret (by simp) (hb hby d_prog_60_method_6_123) hr)
    try rw [e1_]
    exact ⟨rfl, N1_, rfl⟩
  · skip
    show Runs p.tables e below _ (T1_.setTop (mkF m 4 #[.val (.ref a), .val (.int n)] [(.int (2 : Int32))]))
    refine Runs.st (fun t' k' => XS.tswIn X1_.here hx rfl (o := 74) (pc0 := 4) (pc' := 78) rfl (hb hby d_prog_60_method_6_4) rfl (by decide) rfl (by decide) (by decide) k') ?_
    show Runs p.tables e below _ (T1_.setTop (mkF m 78 #[.val (.ref a), .val (.int n)] []))
    refine Runs.st (fun t' k' => XS.iloadN X1_.here hx rfl (hb hby d_prog_60_method_6_78) rfl k') ?_
    show Runs p.tables e below _ (T1_.setTop (mkF m 79 #[.val (.ref a), .val (.int n)] [(.int n)]))
    refine Runs.st (fun t' k' => XS.ifNo X1_.here hx rfl (hb hby d_prog_60_method_6_79) rfl ((if0 _ _).trans (tlt hc).2.1) k') ?_
    show Runs p.tables e below _ (T1_.setTop (mkF m 82 #[.val (.ref a), .val (.int n)] []))
    refine Runs.st (fun t' k' => XS.iconst X1_.here hx rfl (hb hby d_prog_60_method_6_82) k') ?_
    show Runs p.tables e below _ (T1_.setTop (mkF m 83 #[.val (.ref a), .val (.int n)] [(.int (1 : Int32))]))
    refine Runs.st (fun t' k' => XS.goto X1_.here hx rfl (pc0 := 83) (pc' := 123) rfl (hb hby d_prog_60_method_6_83) (by decide) (by decide) k') ?_
    show Runs p.tables e below _ (T1_.setTop (mkF m 123 #[.val (.ref a), .val (.int n)] [(.int (1 : Int32))]))
    refine Runs.ret X1_ hlk (v := (some (.int (1 : Int32)))) (fun h => by rw [hret] at h; cases h) (by decide) (by decide) ?_ (fun fs hr => retN X1_ hx (t := .boolean) hret (by simp) (hb hby d_prog_60_method_6_123) hr)
    try rw [e1_]
    exact ⟨rfl, N1_, rfl⟩
  · skip
    show Runs p.tables e below _ (T1_.setTop (mkF m 4 #[.val (.ref a), .val (.int n)] [(.int (2 : Int32))]))
    refine Runs.st (fun t' k' => XS.tswIn X1_.here hx rfl (o := 74) (pc0 := 4) (pc' := 78) rfl (hb hby d_prog_60_method_6_4) rfl (by decide) rfl (by decide) (by decide) k') ?_
    show Runs p.tables e below _ (T1_.setTop (mkF m 78 #[.val (.ref a), .val (.int n)] []))
    refine Runs.st (fun t' k' => XS.iloadN X1_.here hx rfl (hb hby d_prog_60_method_6_78) rfl k') ?_
    show Runs p.tables e below _ (T1_.setTop (mkF m 79 #[.val (.ref a), .val (.int n)] [(.int n)]))
    refine Runs.st (fun t' k' => XS.ifYes X1_.here hx rfl (pc0 := 79) (pc' := 86) rfl (hb hby d_prog_60_method_6_79) rfl ((if0 _ _).trans (flt hc).2.1) (by decide) (by decide) k') ?_
    show Runs p.tables e below _ (T1_.setTop (mkF m 86 #[.val (.ref a), .val (.int n)] []))
    refine Runs.st (fun t' k' => XS.iconst X1_.here hx rfl (hb hby d_prog_60_method_6_86) k') ?_
    show Runs p.tables e below _ (T1_.setTop (mkF m 87 #[.val (.ref a), .val (.int n)] [(.int (0 : Int32))]))
    refine Runs.st (fun t' k' => XS.goto X1_.here hx rfl (pc0 := 87) (pc' := 123) rfl (hb hby d_prog_60_method_6_87) (by decide) (by decide) k') ?_
    show Runs p.tables e below _ (T1_.setTop (mkF m 123 #[.val (.ref a), .val (.int n)] [(.int (0 : Int32))]))
    refine Runs.ret X1_ hlk (v := (some (.int (0 : Int32)))) (fun h => by rw [hret] at h; cases h) (by decide) (by decide) ?_ (fun fs hr => retN X1_ hx (t := .boolean) hret (by simp) (hb hby d_prog_60_method_6_123) hr)
    try rw [e1_]
    exact ⟨rfl, N1_, rfl⟩
  · skip
    show Runs p.tables e below _ (T1_.setTop (mkF m 4 #[.val (.ref a), .val (.int n)] [(.int (3 : Int32))]))
    refine Runs.st (fun t' k' => XS.tswIn X1_.here hx rfl (o := 86) (pc0 := 4) (pc' := 90) rfl (hb hby d_prog_60_method_6_4) rfl (by decide) rfl (by decide) (by decide) k') ?_
    show Runs p.tables e below _ (T1_.setTop (mkF m 90 #[.val (.ref a), .val (.int n)] []))
    refine Runs.st (fun t' k' => XS.iloadN X1_.here hx rfl (hb hby d_prog_60_method_6_90) rfl k') ?_
    show Runs p.tables e below _ (T1_.setTop (mkF m 91 #[.val (.ref a), .val (.int n)] [(.int n)]))
    refine Runs.st (fun t' k' => XS.ifYes X1_.here hx rfl (pc0 := 91) (pc' := 98) rfl (hb hby d_prog_60_method_6_91) rfl ((if0 _ _).trans (tlt hc).2.2.1) (by decide) (by decide) k') ?_
    show Runs p.tables e below _ (T1_.setTop (mkF m 98 #[.val (.ref a), .val (.int n)] []))
    refine Runs.st (fun t' k' => XS.iconst X1_.here hx rfl (hb hby d_prog_60_method_6_98) k') ?_
    show Runs p.tables e below _ (T1_.setTop (mkF m 99 #[.val (.ref a), .val (.int n)] [(.int (0 : Int32))]))
    refine Runs.st (fun t' k' => XS.goto X1_.here hx rfl (pc0 := 99) (pc' := 123) rfl (hb hby d_prog_60_method_6_99) (by decide) (by decide) k') ?_
    show Runs p.tables e below _ (T1_.setTop (mkF m 123 #[.val (.ref a), .val (.int n)] [(.int (0 : Int32))]))
    refine Runs.ret X1_ hlk (v := (some (.int (0 : Int32)))) (fun h => by rw [hret] at h; cases h) (by decide) (by decide) ?_ (fun fs hr => retN X1_ hx (t := .boolean) hret (by simp) (hb hby d_prog_60_method_6_123) hr)
    try rw [e1_]
    exact ⟨rfl, N1_, rfl⟩
  · skip
    show Runs p.tables e below _ (T1_.setTop (mkF m 4 #[.val (.ref a), .val (.int n)] [(.int (3 : Int32))]))
    refine Runs.st (fun t' k' => XS.tswIn X1_.here hx rfl (o := 86) (pc0 := 4) (pc' := 90) rfl (hb hby d_prog_60_method_6_4) rfl (by decide) rfl (by decide) (by decide) k') ?_
    show Runs p.tables e below _ (T1_.setTop (mkF m 90 #[.val (.ref a), .val (.int n)] []))
    refine Runs.st (fun t' k' => XS.iloadN X1_.here hx rfl (hb hby d_prog_60_method_6_90) rfl k') ?_
    show Runs p.tables e below _ (T1_.setTop (mkF m 91 #[.val (.ref a), .val (.int n)] [(.int n)]))
    refine Runs.st (fun t' k' => XS.ifNo X1_.here hx rfl (hb hby d_prog_60_method_6_91) rfl ((if0 _ _).trans (flt hc).2.2.1) k') ?_
    show Runs p.tables e below _ (T1_.setTop (mkF m 94 #[.val (.ref a), .val (.int n)] []))
    refine Runs.st (fun t' k' => XS.iconst X1_.here hx rfl (hb hby d_prog_60_method_6_94) k') ?_
    show Runs p.tables e below _ (T1_.setTop (mkF m 95 #[.val (.ref a), .val (.int n)] [(.int (1 : Int32))]))
    refine Runs.st (fun t' k' => XS.goto X1_.here hx rfl (pc0 := 95) (pc' := 123) rfl (hb hby d_prog_60_method_6_95) (by decide) (by decide) k') ?_
    show Runs p.tables e below _ (T1_.setTop (mkF m 123 #[.val (.ref a), .val (.int n)] [(.int (1 : Int32))]))
    refine Runs.ret X1_ hlk (v := (some (.int (1 : Int32)))) (fun h => by rw [hret] at h; cases h) (by decide) (by decide) ?_ (fun fs hr => retN X1_ hx (t := .boolean) hret (by simp) (hb hby d_prog_60_method_6_123) hr)
    try rw [e1_]
    exact ⟨rfl, N1_, rfl⟩
  · skip
    show Runs p.tables e below _ (T1_.setTop (mkF m 4 #[.val (.ref a), .val (.int n)] [(.int (4 : Int32))]))
    refine Runs.st (fun t' k' => XS.tswIn X1_.here hx rfl (o := 98) (pc0 := 4) (pc' := 102) rfl (hb hby d_prog_60_method_6_4) rfl (by decide) rfl (by decide) (by decide) k') ?_
    show Runs p.tables e below _ (T1_.setTop (mkF m 102 #[.val (.ref a), .val (.int n)] []))
    refine Runs.st (fun t' k' => XS.iloadN X1_.here hx rfl (hb hby d_prog_60_method_6_102) rfl k') ?_
    show Runs p.tables e below _ (T1_.setTop (mkF m 103 #[.val (.ref a), .val (.int n)] [(.int n)]))
    refine Runs.st (fun t' k' => XS.ifNo X1_.here hx rfl (hb hby d_prog_60_method_6_103) rfl ((if0 _ _).trans (tlt hc).2.2.2) k') ?_
    show Runs p.tables e below _ (T1_.setTop (mkF m 106 #[.val (.ref a), .val (.int n)] []))
    refine Runs.st (fun t' k' => XS.iconst X1_.here hx rfl (hb hby d_prog_60_method_6_106) k') ?_
    show Runs p.tables e below _ (T1_.setTop (mkF m 107 #[.val (.ref a), .val (.int n)] [(.int (1 : Int32))]))
    refine Runs.st (fun t' k' => XS.goto X1_.here hx rfl (pc0 := 107) (pc' := 123) rfl (hb hby d_prog_60_method_6_107) (by decide) (by decide) k') ?_
    show Runs p.tables e below _ (T1_.setTop (mkF m 123 #[.val (.ref a), .val (.int n)] [(.int (1 : Int32))]))
    refine Runs.ret X1_ hlk (v := (some (.int (1 : Int32)))) (fun h => by rw [hret] at h; cases h) (by decide) (by decide) ?_ (fun fs hr => retN X1_ hx (t := .boolean) hret (by simp) (hb hby d_prog_60_method_6_123) hr)
    try rw [e1_]
    exact ⟨rfl, N1_, rfl⟩
  · skip
    show Runs p.tables e below _ (T1_.setTop (mkF m 4 #[.val (.ref a), .val (.int n)] [(.int (4 : Int32))]))
    refine Runs.st (fun t' k' => XS.tswIn X1_.here hx rfl (o := 98) (pc0 := 4) (pc' := 102) rfl (hb hby d_prog_60_method_6_4) rfl (by decide) rfl (by decide) (by decide) k') ?_
    show Runs p.tables e below _ (T1_.setTop (mkF m 102 #[.val (.ref a), .val (.int n)] []))
    refine Runs.st (fun t' k' => XS.iloadN X1_.here hx rfl (hb hby d_prog_60_method_6_102) rfl k') ?_
    show Runs p.tables e below _ (T1_.setTop (mkF m 103 #[.val (.ref a), .val (.int n)] [(.int n)]))
    refine Runs.st (fun t' k' => XS.ifYes X1_.here hx rfl (pc0 := 103) (pc' := 110) rfl (hb hby d_prog_60_method_6_103) rfl ((if0 _ _).trans (flt hc).2.2.2) (by decide) (by decide) k') ?_
    show Runs p.tables e below _ (T1_.setTop (mkF m 110 #[.val (.ref a), .val (.int n)] []))
    refine Runs.st (fun t' k' => XS.iconst X1_.here hx rfl (hb hby d_prog_60_method_6_110) k') ?_
    show Runs p.tables e below _ (T1_.setTop (mkF m 111 #[.val (.ref a), .val (.int n)] [(.int (0 : Int32))]))
    refine Runs.st (fun t' k' => XS.goto X1_.here hx rfl (pc0 := 111) (pc' := 123) rfl (hb hby d_prog_60_method_6_111) (by decide) (by decide) k') ?_
    show Runs p.tables e below _ (T1_.setTop (mkF m 123 #[.val (.ref a), .val (.int n)] [(.int (0 : Int32))]))
    refine Runs.ret X1_ hlk (v := (some (.int (0 : Int32)))) (fun h => by rw [hret] at h; cases h) (by decide) (by decide) ?_ (fun fs hr => retN X1_ hx (t := .boolean) hret (by simp) (hb hby d_prog_60_method_6_123) hr)
    try rw [e1_]
    exact ⟨rfl, N1_, rfl⟩
  · skip
    show Runs p.tables e below _ (T1_.setTop (mkF m 4 #[.val (.ref a), .val (.int n)] [(.int (5 : Int32))]))
    refine Runs.st (fun t' k' => XS.tswIn X1_.here hx rfl (o := 110) (pc0 := 4) (pc' := 114) rfl (hb hby d_prog_60_method_6_4) rfl (by decide) rfl (by decide) (by decide) k') ?_
    show Runs p.tables e below _ (T1_.setTop (mkF m 114 #[.val (.ref a), .val (.int n)] []))
    refine Runs.st (fun t' k' => XS.iloadN X1_.here hx rfl (hb hby d_prog_60_method_6_114) rfl k') ?_
    show Runs p.tables e below _ (T1_.setTop (mkF m 115 #[.val (.ref a), .val (.int n)] [(.int n)]))
    refine Runs.st (fun t' k' => XS.ifYes X1_.here hx rfl (pc0 := 115) (pc' := 122) rfl (hb hby d_prog_60_method_6_115) rfl ((if0 _ _).trans (tlt hc).1) (by decide) (by decide) k') ?_
    show Runs p.tables e below _ (T1_.setTop (mkF m 122 #[.val (.ref a), .val (.int n)] []))
    refine Runs.st (fun t' k' => XS.iconst X1_.here hx rfl (hb hby d_prog_60_method_6_122) k') ?_
    show Runs p.tables e below _ (T1_.setTop (mkF m 123 #[.val (.ref a), .val (.int n)] [(.int (0 : Int32))]))
    refine Runs.ret X1_ hlk (v := (some (.int (0 : Int32)))) (fun h => by rw [hret] at h; cases h) (by decide) (by decide) ?_ (fun fs hr => retN X1_ hx (t := .boolean) hret (by simp) (hb hby d_prog_60_method_6_123) hr)
    try rw [e1_]
    exact ⟨rfl, N1_, rfl⟩
  · skip
    show Runs p.tables e below _ (T1_.setTop (mkF m 4 #[.val (.ref a), .val (.int n)] [(.int (5 : Int32))]))
    refine Runs.st (fun t' k' => XS.tswIn X1_.here hx rfl (o := 110) (pc0 := 4) (pc' := 114) rfl (hb hby d_prog_60_method_6_4) rfl (by decide) rfl (by decide) (by decide) k') ?_
    show Runs p.tables e below _ (T1_.setTop (mkF m 114 #[.val (.ref a), .val (.int n)] []))
    refine Runs.st (fun t' k' => XS.iloadN X1_.here hx rfl (hb hby d_prog_60_method_6_114) rfl k') ?_
    show Runs p.tables e below _ (T1_.setTop (mkF m 115 #[.val (.ref a), .val (.int n)] [(.int n)]))
    refine Runs.st (fun t' k' => XS.ifNo X1_.here hx rfl (hb hby d_prog_60_method_6_115) rfl ((if0 _ _).trans (flt hc).1) k') ?_
    show Runs p.tables e below _ (T1_.setTop (mkF m 118 #[.val (.ref a), .val (.int n)] []))
    refine Runs.st (fun t' k' => XS.iconst X1_.here hx rfl (hb hby d_prog_60_method_6_118) k') ?_
    show Runs p.tables e below _ (T1_.setTop (mkF m 119 #[.val (.ref a), .val (.int n)] [(.int (1 : Int32))]))
    refine Runs.st (fun t' k' => XS.goto X1_.here hx rfl (pc0 := 119) (pc' := 123) rfl (hb hby d_prog_60_method_6_119) (by decide) (by decide) k') ?_
    show Runs p.tables e below _ (T1_.setTop (mkF m 123 #[.val (.ref a), .val (.int n)] [(.int (1 : Int32))]))
    refine Runs.ret X1_ hlk (v := (some (.int (1 : Int32)))) (fun h => by rw [hret] at h; cases h) (by decide) (by decide) ?_ (fun fs hr => retN X1_ hx (t := .boolean) hret (by simp) (hb hby d_prog_60_method_6_123) hr)
    try rw [e1_]
    exact ⟨rfl, N1_, rfl⟩
def Q_rmEq (Z : State) (a : Addr) (oe one : Addr) (r : Int32) (h0 : Heap) (n0 : Nat) : Option Value → Heap → List Loc → Prop := (fun v h L => v = some (.int r) ∧ Fr n0 L ∧ h = h0)
theorem ef_prog_60_method_5_R (m : MethodId) (x0 : Addr)  : entryFrame m #[(.ref x0)] 1 = mkF m 0 #[.val (.ref x0)] [] := by first | (simp [entryFrame, mkF, argsToLocals, Value.category]; done) | rfl
theorem d_prog_60_method_5_0 : decode prog_60_method_5_code 0 = .ok (.aload_n 0, 1) := by decide +kernel
theorem d_prog_60_method_5_1 : decode prog_60_method_5_code 1 = .ok (.getstatic 3, 3) := by decide +kernel
theorem d_prog_60_method_5_4 : decode prog_60_method_5_code 4 = .ok (.if_acmp .eq 10, 3) := by decide +kernel
theorem d_prog_60_method_5_14 : decode prog_60_method_5_code 14 = .ok (.iconst 1, 1) := by decide +kernel
theorem d_prog_60_method_5_15 : decode prog_60_method_5_code 15 = .ok (.goto 4, 3) := by decide +kernel
theorem d_prog_60_method_5_19 : decode prog_60_method_5_code 19 = .ok (.ireturn, 1) := by decide +kernel
theorem d_prog_60_method_5_7 : decode prog_60_method_5_code 7 = .ok (.aload_n 0, 1) := by decide +kernel
theorem d_prog_60_method_5_8 : decode prog_60_method_5_code 8 = .ok (.getstatic 7, 3) := by decide +kernel
theorem d_prog_60_method_5_11 : decode prog_60_method_5_code 11 = .ok (.if_acmp .ne 7, 3) := by decide +kernel
theorem d_prog_60_method_5_18 : decode prog_60_method_5_code 18 = .ok (.iconst 0, 1) := by decide +kernel
set_option maxRecDepth 65536 in
set_option maxHeartbeats 40000000 in
theorem rmEq (l : Launch) (Z : State) (a0 : Array Value) (hw : ∀ d ∈ tables_1, d.before a0 Z = true) (ws : List Jvm.Cond) (a : Addr) (oe one : Addr) (r : Int32) (h0 : Heap) (n0 : Nat) (Z0 : n0 ≤ h0.size) (S0 : Sta Z h0 "com/example/attribute_to_audience/attributetoaudience/model/Operator" "EQUAL" "Lcom/example/attribute_to_audience/attributetoaudience/model/Operator;" (.ref oe)) (S1 : Sta Z h0 "com/example/attribute_to_audience/attributetoaudience/model/Operator" "NOT_EQUAL" "Lcom/example/attribute_to_audience/attributetoaudience/model/Operator;" (.ref one)) (hr : ((a = oe ∨ a = one) ∧ r = (1 : Int32)) ∨ ((a ≠ oe ∧ a ≠ one) ∧ r = (0 : Int32))) :
    MetFree l (⟨"com/example/attribute_to_audience/attributetoaudience/model/Operator", "isEquality", "()Z"⟩ : MethodName) (head1 (Jvm.Cond.code (⟨"com/example/attribute_to_audience/attributetoaudience/model/Operator", "isEquality", "()Z"⟩ : MethodName) prog_60_method_5_code 1 (some .boolean) :: ws) ({ frames := 0, cells := 0, slots := 0, locals := 0 } : Room)) (fun ar_ U => ar_ = #[(.ref a)] ∧ Z.Warmed39 U.vm ∧ U.heap = h0) (fun _ _ _ _ _ => True) (fun _ U o U' => Phi U (Q_rmEq Z a oe one r h0 n0) ({ frames := 0, cells := 0, slots := 0, locals := 0 } : Room).cells ({ frames := 0, cells := 0, slots := 0, locals := 0 } : Room).slots o U') := by
  refine MetFree.of_bodySF (plainFor_of_name pn_com_example_attribute_to_audience_attributetoaudience_model_Operator) hisR ?_
  intro p e s m args below meth c s₁ Bd hml0 hP hK
  obtain ⟨rfl, hZ, hh⟩ := hP
  have hx := Bd.exec
  have hby := Bd.bytes
  have hlk := Bd.notSynchronized
  have hml : c.maxLocals = 1 := hml0
  have hown : s.vm.findClass "com/example/attribute_to_audience/attributetoaudience/model/Operator" = some m.cls := findClass_of_methodNamed Bd.named
  have hown0 := hown
  have hnm := (name_of_methodNamed Bd.named Bd.method).1
  have hret := Bd.returns
  have X0 : Stand p l e ({ frames := 0, cells := 0, slots := 0, locals := 0 } : Room) s m #[(.ref a)] below meth c s₁ [] 0 0 := Stand.of_body Bd
  have e0 : s₁.heap = h0 := by rw [← hh, Bd.state]; rfl
  have N0 := Fr.nil n0
  have sz := Z0
  have K := Keep.refl h0 []
  show Runs p.tables e below (Phi s (Q_rmEq Z a oe one r h0 n0) ({ frames := 0, cells := 0, slots := 0, locals := 0 } : Room).cells ({ frames := 0, cells := 0, slots := 0, locals := 0 } : Room).slots) _
  refine Runs.st (fun t' k' => castTop (ef_prog_60_method_5_R m a ) k') ?_
  show Runs p.tables e below _ (s₁.setTop (mkF m 0 #[.val (.ref a)] []))
  refine Runs.st (fun t' k' => XS.aloadN X0.here hx rfl (hb hby d_prog_60_method_5_0) rfl rfl k') ?_
  show Runs p.tables e below _ (s₁.setTop (mkF m 1 #[.val (.ref a)] [(.ref a)]))
  obtain ⟨T1_, X1_, e1_, st1_⟩ := getS2 X0 hx hZ hown (host := "") (Or.inl (hw _ (List.mem_of_getElem? (i := 32) rfl))) Via.refl e0 S0 (g := (mkF m 1 #[.val (.ref a)] [(.ref a)])) rfl (hb hby d_prog_60_method_5_1)
  refine Runs.st (st1_) ?_
  show Runs p.tables e below _ (T1_.setTop (mkF m 4 #[.val (.ref a)] [(.ref oe), (.ref a)]))
  rcases hr with ⟨rfl | rfl, rfl⟩ | ⟨⟨q1, q2⟩, rfl⟩
  · skip
    show Runs p.tables e below _ (T1_.setTop (mkF m 4 #[.val (.ref a)] [(.ref a), (.ref a)]))
    refine Runs.st (fun t' k' => Jvm.RoadKit.acmp (g := (mkF m 4 #[.val (.ref a)] [(.ref a), (.ref a)])) X1_ hx rfl rfl rfl (pc0 := 4) (pc' := 14) (same := true) rfl (hb hby d_prog_60_method_5_4) rfl (decide_eq_true rfl) (by decide) (by decide) k') ?_
    show Runs p.tables e below _ (T1_.setTop (mkF m 14 #[.val (.ref a)] []))
    refine Runs.st (fun t' k' => XS.iconst X1_.here hx rfl (hb hby d_prog_60_method_5_14) k') ?_
    show Runs p.tables e below _ (T1_.setTop (mkF m 15 #[.val (.ref a)] [(.int (1 : Int32))]))
    refine Runs.st (fun t' k' => XS.goto X1_.here hx rfl (pc0 := 15) (pc' := 19) rfl (hb hby d_prog_60_method_5_15) (by decide) (by decide) k') ?_
    show Runs p.tables e below _ (T1_.setTop (mkF m 19 #[.val (.ref a)] [(.int (1 : Int32))]))
    refine Runs.ret X1_ hlk (v := (some (.int (1 : Int32)))) (fun h => by rw [hret] at h; cases h) (by decide) (by decide) ?_ (fun fs hr => retN X1_ hx (t := .boolean) hret (by simp) (hb hby d_prog_60_method_5_19) hr)
    try rw [e1_]
    exact ⟨rfl, N0, rfl⟩
  · skip
    by_cases q1 : a = oe
    · skip
      refine Runs.st (fun t' k' => Jvm.RoadKit.acmp (g := (mkF m 4 #[.val (.ref a)] [(.ref oe), (.ref a)])) X1_ hx rfl rfl rfl (pc0 := 4) (pc' := 14) (same := true) rfl (hb hby d_prog_60_method_5_4) rfl (decide_eq_true (congrArg Value.ref q1)) (by decide) (by decide) k') ?_
      show Runs p.tables e below _ (T1_.setTop (mkF m 14 #[.val (.ref a)] []))
      refine Runs.st (fun t' k' => XS.iconst X1_.here hx rfl (hb hby d_prog_60_method_5_14) k') ?_
      show Runs p.tables e below _ (T1_.setTop (mkF m 15 #[.val (.ref a)] [(.int (1 : Int32))]))
      refine Runs.st (fun t' k' => XS.goto X1_.here hx rfl (pc0 := 15) (pc' := 19) rfl (hb hby d_prog_60_method_5_15) (by decide) (by decide) k') ?_
      show Runs p.tables e below _ (T1_.setTop (mkF m 19 #[.val (.ref a)] [(.int (1 : Int32))]))
      refine Runs.ret X1_ hlk (v := (some (.int (1 : Int32)))) (fun h => by rw [hret] at h; cases h) (by decide) (by decide) ?_ (fun fs hr => retN X1_ hx (t := .boolean) hret (by simp) (hb hby d_prog_60_method_5_19) hr)
      try rw [e1_]
      exact ⟨rfl, N0, rfl⟩
    · skip
      refine Runs.st (fun t' k' => Jvm.RoadKit.acmp (g := (mkF m 4 #[.val (.ref a)] [(.ref oe), (.ref a)])) X1_ hx rfl rfl rfl (pc0 := 4) (pc' := 7) (same := false) rfl (hb hby d_prog_60_method_5_4) rfl (decide_eq_false fun q => q1 (Value.ref.inj q)) (by decide) (by decide) k') ?_
      show Runs p.tables e below _ (T1_.setTop (mkF m 7 #[.val (.ref a)] []))
      refine Runs.st (fun t' k' => XS.aloadN X1_.here hx rfl (hb hby d_prog_60_method_5_7) rfl rfl k') ?_
      show Runs p.tables e below _ (T1_.setTop (mkF m 8 #[.val (.ref a)] [(.ref a)]))
      obtain ⟨T2_, X2_, e2_, st2_⟩ := getS2 X1_ hx hZ hown (host := "") (Or.inl (hw _ (List.mem_of_getElem? (i := 35) rfl))) Via.refl e1_ S1 (g := (mkF m 8 #[.val (.ref a)] [(.ref a)])) rfl (hb hby d_prog_60_method_5_8)
      refine Runs.st (st2_) ?_
      show Runs p.tables e below _ (T2_.setTop (mkF m 11 #[.val (.ref a)] [(.ref a), (.ref a)]))
      refine Runs.st (fun t' k' => Jvm.RoadKit.acmp (g := (mkF m 11 #[.val (.ref a)] [(.ref a), (.ref a)])) X2_ hx rfl rfl rfl (pc0 := 11) (pc' := 14) (same := true) rfl (hb hby d_prog_60_method_5_11) rfl (decide_eq_true rfl) (by decide) (by decide) k') ?_
      show Runs p.tables e below _ (T2_.setTop (mkF m 14 #[.val (.ref a)] []))
      refine Runs.st (fun t' k' => XS.iconst X2_.here hx rfl (hb hby d_prog_60_method_5_14) k') ?_
      show Runs p.tables e below _ (T2_.setTop (mkF m 15 #[.val (.ref a)] [(.int (1 : Int32))]))
      refine Runs.st (fun t' k' => XS.goto X2_.here hx rfl (pc0 := 15) (pc' := 19) rfl (hb hby d_prog_60_method_5_15) (by decide) (by decide) k') ?_
      show Runs p.tables e below _ (T2_.setTop (mkF m 19 #[.val (.ref a)] [(.int (1 : Int32))]))
      refine Runs.ret X2_ hlk (v := (some (.int (1 : Int32)))) (fun h => by rw [hret] at h; cases h) (by decide) (by decide) ?_ (fun fs hr => retN X2_ hx (t := .boolean) hret (by simp) (hb hby d_prog_60_method_5_19) hr)
      try rw [e2_]
      exact ⟨rfl, N0, rfl⟩
  · skip
    refine Runs.st (fun t' k' => Jvm.RoadKit.acmp (g := (mkF m 4 #[.val (.ref a)] [(.ref oe), (.ref a)])) X1_ hx rfl rfl rfl (pc0 := 4) (pc' := 7) (same := false) rfl (hb hby d_prog_60_method_5_4) rfl (decide_eq_false fun q => q1 (Value.ref.inj q)) (by decide) (by decide) k') ?_
    show Runs p.tables e below _ (T1_.setTop (mkF m 7 #[.val (.ref a)] []))
    refine Runs.st (fun t' k' => XS.aloadN X1_.here hx rfl (hb hby d_prog_60_method_5_7) rfl rfl k') ?_
    show Runs p.tables e below _ (T1_.setTop (mkF m 8 #[.val (.ref a)] [(.ref a)]))
    obtain ⟨T3_, X3_, e3_, st3_⟩ := getS2 X1_ hx hZ hown (host := "") (Or.inl (hw _ (List.mem_of_getElem? (i := 35) rfl))) Via.refl e1_ S1 (g := (mkF m 8 #[.val (.ref a)] [(.ref a)])) rfl (hb hby d_prog_60_method_5_8)
    refine Runs.st (st3_) ?_
    show Runs p.tables e below _ (T3_.setTop (mkF m 11 #[.val (.ref a)] [(.ref one), (.ref a)]))
    refine Runs.st (fun t' k' => Jvm.RoadKit.acmp (g := (mkF m 11 #[.val (.ref a)] [(.ref one), (.ref a)])) X3_ hx rfl rfl rfl (pc0 := 11) (pc' := 18) (same := false) rfl (hb hby d_prog_60_method_5_11) rfl (decide_eq_false fun q => q2 (Value.ref.inj q)) (by decide) (by decide) k') ?_
    show Runs p.tables e below _ (T3_.setTop (mkF m 18 #[.val (.ref a)] []))
    refine Runs.st (fun t' k' => XS.iconst X3_.here hx rfl (hb hby d_prog_60_method_5_18) k') ?_
    show Runs p.tables e below _ (T3_.setTop (mkF m 19 #[.val (.ref a)] [(.int (0 : Int32))]))
    refine Runs.ret X3_ hlk (v := (some (.int (0 : Int32)))) (fun h => by rw [hret] at h; cases h) (by decide) (by decide) ?_ (fun fs hr => retN X3_ hx (t := .boolean) hret (by simp) (hb hby d_prog_60_method_5_19) hr)
    try rw [e3_]
    exact ⟨rfl, N0, rfl⟩
theorem ef_0_III (m : MethodId) (x0 : Int32) (x1 : Int32) (x2 : Int32)  : entryFrame m #[(.int x0), (.int x1), (.int x2)] maxLocals = mkF m 0 #[.val (.int x0), .val (.int x1), .val (.int x2), .unset, .unset, .unset, .unset] [] := by first | (simp [entryFrame, mkF, argsToLocals, Value.category, maxLocals]; done) | rfl
theorem pd__28I_29Lcom_2fexample_2fattribute_to_audience_2fattributetoaudience_2fmodel_2fOperator_3b : parseMethodDescriptor "(I)Lcom/example/attribute_to_audience/attributetoaudience/model/Operator;" = some ⟨[.int], some (.object "com/example/attribute_to_audience/attributetoaudience/model/Operator")⟩ := by decide +kernel
theorem pd__28II_29I : parseMethodDescriptor "(II)I" = some ⟨[.int, .int], some .int⟩ := by decide +kernel
theorem pd__28I_29Z : parseMethodDescriptor "(I)Z" = some ⟨[.int], some .boolean⟩ := by decide +kernel
theorem pd__28_29Z : parseMethodDescriptor "()Z" = some ⟨[], some .boolean⟩ := by decide +kernel
set_option maxRecDepth 65536 in
set_option maxHeartbeats 40000000 in
theorem rm0 (l : Launch) (Z : State) (a0 : Array Value) (hw : ∀ d ∈ tables_1, d.before a0 Z = true) (ws : List Jvm.Cond) (i0 : Int32) (i1 : Int32) (i2 : Int32) (oe one ol ole og oge : Addr) (h0 : Heap) (n0 : Nat) (Z0 : n0 ≤ h0.size) (S0 : Sta Z h0 "com/example/attribute_to_audience/attributetoaudience/model/Operator" "EQUAL" "Lcom/example/attribute_to_audience/attributetoaudience/model/Operator;" (.ref oe)) (E0 : Exa Z h0 oe "com/example/attribute_to_audience/attributetoaudience/model/Operator") (O0 : Fld Z h0 oe "java/lang/Enum" "ordinal" "I" (.int (0 : Int32))) (S1 : Sta Z h0 "com/example/attribute_to_audience/attributetoaudience/model/Operator" "NOT_EQUAL" "Lcom/example/attribute_to_audience/attributetoaudience/model/Operator;" (.ref one)) (E1 : Exa Z h0 one "com/example/attribute_to_audience/attributetoaudience/model/Operator") (O1 : Fld Z h0 one "java/lang/Enum" "ordinal" "I" (.int (1 : Int32))) (S2 : Sta Z h0 "com/example/attribute_to_audience/attributetoaudience/model/Operator" "LESS" "Lcom/example/attribute_to_audience/attributetoaudience/model/Operator;" (.ref ol)) (E2 : Exa Z h0 ol "com/example/attribute_to_audience/attributetoaudience/model/Operator") (O2 : Fld Z h0 ol "java/lang/Enum" "ordinal" "I" (.int (2 : Int32))) (S3 : Sta Z h0 "com/example/attribute_to_audience/attributetoaudience/model/Operator" "LESS_OR_EQUAL" "Lcom/example/attribute_to_audience/attributetoaudience/model/Operator;" (.ref ole)) (E3 : Exa Z h0 ole "com/example/attribute_to_audience/attributetoaudience/model/Operator") (O3 : Fld Z h0 ole "java/lang/Enum" "ordinal" "I" (.int (3 : Int32))) (S4 : Sta Z h0 "com/example/attribute_to_audience/attributetoaudience/model/Operator" "GREATER" "Lcom/example/attribute_to_audience/attributetoaudience/model/Operator;" (.ref og)) (E4 : Exa Z h0 og "com/example/attribute_to_audience/attributetoaudience/model/Operator") (O4 : Fld Z h0 og "java/lang/Enum" "ordinal" "I" (.int (4 : Int32))) (S5 : Sta Z h0 "com/example/attribute_to_audience/attributetoaudience/model/Operator" "GREATER_OR_EQUAL" "Lcom/example/attribute_to_audience/attributetoaudience/model/Operator;" (.ref oge)) (E5 : Exa Z h0 oge "com/example/attribute_to_audience/attributetoaudience/model/Operator") (O5 : Fld Z h0 oge "java/lang/Enum" "ordinal" "I" (.int (5 : Int32))) :
    MetFree l x (head1 (Jvm.Cond.code x code maxLocals ret :: ws) room_1) (fun ar_ U => ar_ = #[(.int i0), (.int i1), (.int i2)] ∧ Z.Warmed39 U.vm ∧ U.heap = h0) (fun _ _ _ _ _ => True) (fun _ U o U' => Phi U (fun v h L => v = some (.int 1) ∧ Fr n0 L) room_1.cells room_1.slots o U') := by
  refine MetFree.of_bodySF (plainFor_of_name pn_com_example_attribute_to_audience_attributetoaudience_model_OperatorIsEqualityPinLaw) hisR ?_
  intro p e s m args below meth c s₁ Bd hml0 hP hK
  obtain ⟨rfl, hZ, hh⟩ := hP
  have hx := Bd.exec
  have hby := Bd.bytes
  have hlk := Bd.notSynchronized
  have hml : c.maxLocals = 7 := hml0
  have hown : s.vm.findClass "com/example/attribute_to_audience/attributetoaudience/model/OperatorIsEqualityPinLaw" = some m.cls := findClass_of_methodNamed Bd.named
  have hown0 := hown
  have hnm := (name_of_methodNamed Bd.named Bd.method).1
  have hret := Bd.returns
  have X0 : Stand p l e room_1 s m #[(.int i0), (.int i1), (.int i2)] below meth c s₁ [] 0 0 := Stand.of_body Bd
  have e0 : s₁.heap = h0 := by rw [← hh, Bd.state]; rfl
  have N0 := Fr.nil n0
  have sz := Z0
  have K := Keep.refl h0 []
  show Runs p.tables e below (Phi s (fun v h L => v = some (.int 1) ∧ Fr n0 L) room_1.cells room_1.slots) _
  refine Runs.st (fun t' k' => castTop (ef_0_III m i0 i1 i2 ) k') ?_
  show Runs p.tables e below _ (s₁.setTop (mkF m 0 #[.val (.int i0), .val (.int i1), .val (.int i2), .unset, .unset, .unset, .unset] []))
  have hcase : ((i0 &&& (2147483647 : Int32)) % (6 : Int32)) = (0 : Int32) ∨ ((i0 &&& (2147483647 : Int32)) % (6 : Int32)) = (1 : Int32) ∨ ((i0 &&& (2147483647 : Int32)) % (6 : Int32)) = (2 : Int32) ∨ ((i0 &&& (2147483647 : Int32)) % (6 : Int32)) = (3 : Int32) ∨ ((i0 &&& (2147483647 : Int32)) % (6 : Int32)) = (4 : Int32) ∨ ((i0 &&& (2147483647 : Int32)) % (6 : Int32)) = (5 : Int32) := by
    have a : (i0 &&& (2147483647 : Int32)).toInt = i0.toInt % 2 ^ 31 := Jvm.Kit.i32_mask i0 2147483647 (k := 31) (by decide) (by decide)
    have b := (c_irem (i0 &&& (2147483647 : Int32)) (6 : Int32) 6 rfl).1 (by omega)
    have t : ∀ j : Int32, (((i0 &&& (2147483647 : Int32)) % (6 : Int32)) = j ↔ ((i0 &&& (2147483647 : Int32)) % (6 : Int32)).toInt = j.toInt) := fun j => Int32.toInt_inj.symm
    rw [t 0, t 1, t 2, t 3, t 4, t 5, show (0 : Int32).toInt = 0 from rfl, show (1 : Int32).toInt = 1 from rfl, show (2 : Int32).toInt = 2 from rfl, show (3 : Int32).toInt = 3 from rfl, show (4 : Int32).toInt = 4 from rfl, show (5 : Int32).toInt = 5 from rfl]
    omega
  obtain ⟨n, hn⟩ : ∃ z : Int32, z = (i1 ||| (-2147483648 : Int32)) := ⟨_, rfl⟩
  have n1 : n.toInt < 0 := by rw [hn]; exact (c_orS i1 (-2147483648 : Int32)).2.2 (by decide)
  obtain ⟨m2, hm2⟩ : ∃ z : Int32, z = if (1 : Int32) < (i2 &&& (2147483647 : Int32)) then (i2 &&& (2147483647 : Int32)) else (1 : Int32) := ⟨_, rfl⟩
  have m1 : 0 < m2.toInt := by
    rw [hm2]; split
    · rename_i q; rw [Int32.lt_iff_toInt_lt] at q; change (1 : Int) < _ at q; omega
    · decide
  have nlt : n < (0 : Int32) := Int32.lt_iff_toInt_lt.mpr n1
  have mgt : (0 : Int32) < m2 := Int32.lt_iff_toInt_lt.mpr m1
  have nne : ¬ n = (0 : Int32) := fun q => by rw [q] at n1; exact absurd n1 (by decide)
  have mne : ¬ m2 = (0 : Int32) := fun q => by rw [q] at m1; exact absurd m1 (by decide)
  have ngt : ¬ (0 : Int32) < n := fun q => by have q' := Int32.lt_iff_toInt_lt.mp q; change (0 : Int) < _ at q'; omega
  have mlt : ¬ m2 < (0 : Int32) := fun q => by have q' := Int32.lt_iff_toInt_lt.mp q; change _ < (0 : Int) at q'; omega
  have neq : ∀ {x y : Addr} {j k : Int32}, Fld Z h0 x "java/lang/Enum" "ordinal" "I" (.int j) → Fld Z h0 y "java/lang/Enum" "ordinal" "I" (.int k) → j ≠ k → x ≠ y := fun F G q => F.ne G fun e => q (Value.int.inj e)
  rcases hcase with hj | hj | hj | hj | hj | hj
  · skip
    refine Runs.st (fun t' k' => XS.iloadN X0.here hx rfl (hb hby at_0) rfl k') ?_
    show Runs p.tables e below _ (s₁.setTop (mkF m 1 #[.val (.int i0), .val (.int i1), .val (.int i2), .unset, .unset, .unset, .unset] [(.int i0)]))
    obtain ⟨_, _, ⟨T1_, L1_, k1_, n1_⟩, -, X1_, ⟨Lc1_, hQ1_, l1_, y1_, z1_⟩, st1_⟩ := Jvm.LawKit.callS X0 hx (y := (⟨"com/example/attribute_to_audience/attributetoaudience/model/OperatorIsEqualityPinLaw", "pick", "(I)Lcom/example/attribute_to_audience/attributetoaudience/model/Operator;"⟩ : MethodName)) hown (mvT hZ (hw _ (List.mem_of_getElem? (i := 0) rfl))) (mvT hZ (hw _ (List.mem_of_getElem? (i := 1) rfl))) (mvT hZ (hw _ (List.mem_of_getElem? (i := 2) rfl))) (mvT hZ (hw _ (List.mem_of_getElem? (i := 3) rfl))) (by decide) (backOf (W := 0) (rmPick l Z a0 hw [] i0 oe oe one ol ole og oge h0 n0 sz S0 S1 S2 S3 S4 S5 (Or.inl ⟨hj, rfl⟩)) hZ (hw _ (List.mem_of_getElem? (i := 3) rfl)) (hw _ (List.mem_of_getElem? (i := 2) rfl)) (by decide) (by decide)) (g := (mkF m 1 #[.val (.int i0), .val (.int i1), .val (.int i2), .unset, .unset, .unset, .unset] [(.int i0)])) rfl (by rw [hml]; rfl) (argsL := [(.int i0)]) (rest := []) (lenOf pd__28I_29Lcom_2fexample_2fattribute_to_audience_2fattributetoaudience_2fmodel_2fOperator_3b rfl) rfl (by show 2 * 0 + _ ≤ _; exact Nat.le_of_eq rfl) (hb hby at_1) (fun _ _ => ⟨rfl, e0, (by decide : 0 + 0 ≤ _), (by decide : 0 + 0 ≤ _)⟩)
    dsimp only [Pt.U, Pt.locs, Pt.cells, Pt.slots] at X1_ l1_ y1_ z1_ st1_ hQ1_
    subst l1_ y1_ z1_
    obtain ⟨rfl, N1_q, e1_⟩ := hQ1_
    have N1_ := Fr.app N0 N1_q
    refine Runs.st (st1_) ?_
    replace X1_ := wider X1_ (c' := 0) (s' := 0) (by decide) (by decide)
    show Runs p.tables e below _ (T1_.setTop (mkF m 4 #[.val (.int i0), .val (.int i1), .val (.int i2), .unset, .unset, .unset, .unset] [(.ref oe)]))
    refine Runs.st (fun t' k' => XS.astoreN X1_.here hx rfl (hb hby at_4) rfl rfl (l' := #[.val (.int i0), .val (.int i1), .val (.int i2), .val (.ref oe), .unset, .unset, .unset]) rfl k') ?_
    show Runs p.tables e below _ (T1_.setTop (mkF m 5 #[.val (.int i0), .val (.int i1), .val (.int i2), .val (.ref oe), .unset, .unset, .unset] []))
    refine Runs.st (fun t' k' => XS.iloadN X1_.here hx rfl (hb hby at_5) rfl k') ?_
    show Runs p.tables e below _ (T1_.setTop (mkF m 6 #[.val (.int i0), .val (.int i1), .val (.int i2), .val (.ref oe), .unset, .unset, .unset] [(.int i1)]))
    refine Runs.st (fun t' k' => X1_.ldcInt hx hown (mvT hZ (hw _ (List.mem_of_getElem? (i := 8) rfl))) (g := (mkF m 6 #[.val (.int i0), .val (.int i1), .val (.int i2), .val (.ref oe), .unset, .unset, .unset] [(.int i1)])) rfl (hb hby at_6) t' k') ?_
    show Runs p.tables e below _ (T1_.setTop (mkF m 8 #[.val (.int i0), .val (.int i1), .val (.int i2), .val (.ref oe), .unset, .unset, .unset] [(.int (-2147483648 : Int32)), (.int i1)]))
    refine Runs.st (fun t' k' => XS.ior X1_.here hx rfl (hb hby at_8) rfl k') ?_
    show Runs p.tables e below _ (T1_.setTop (mkF m 9 #[.val (.int i0), .val (.int i1), .val (.int i2), .val (.ref oe), .unset, .unset, .unset] [(.int (i1 ||| (-2147483648 : Int32)))]))
    rw [← hn]
    refine Runs.st (fun t' k' => XS.istore X1_.here hx rfl (hb hby at_9) rfl (l' := #[.val (.int i0), .val (.int i1), .val (.int i2), .val (.ref oe), .val (.int n), .unset, .unset]) rfl k') ?_
    show Runs p.tables e below _ (T1_.setTop (mkF m 11 #[.val (.int i0), .val (.int i1), .val (.int i2), .val (.ref oe), .val (.int n), .unset, .unset] []))
    refine Runs.st (fun t' k' => XS.iconst X1_.here hx rfl (hb hby at_11) k') ?_
    show Runs p.tables e below _ (T1_.setTop (mkF m 12 #[.val (.int i0), .val (.int i1), .val (.int i2), .val (.ref oe), .val (.int n), .unset, .unset] [(.int (1 : Int32))]))
    refine Runs.st (fun t' k' => XS.iloadN X1_.here hx rfl (hb hby at_12) rfl k') ?_
    show Runs p.tables e below _ (T1_.setTop (mkF m 13 #[.val (.int i0), .val (.int i1), .val (.int i2), .val (.ref oe), .val (.int n), .unset, .unset] [(.int i2), (.int (1 : Int32))]))
    refine Runs.st (fun t' k' => X1_.ldcInt hx hown (mvT hZ (hw _ (List.mem_of_getElem? (i := 4) rfl))) (g := (mkF m 13 #[.val (.int i0), .val (.int i1), .val (.int i2), .val (.ref oe), .val (.int n), .unset, .unset] [(.int i2), (.int (1 : Int32))])) rfl (hb hby at_13) t' k') ?_
    show Runs p.tables e below _ (T1_.setTop (mkF m 15 #[.val (.int i0), .val (.int i1), .val (.int i2), .val (.ref oe), .val (.int n), .unset, .unset] [(.int (2147483647 : Int32)), (.int i2), (.int (1 : Int32))]))
    refine Runs.st (fun t' k' => XS.iand X1_.here hx rfl (hb hby at_15) rfl k') ?_
    show Runs p.tables e below _ (T1_.setTop (mkF m 16 #[.val (.int i0), .val (.int i1), .val (.int i2), .val (.ref oe), .val (.int n), .unset, .unset] [(.int (i2 &&& (2147483647 : Int32))), (.int (1 : Int32))]))
    obtain ⟨_, _, ⟨T2_, L2_, k2_, n2_⟩, -, X2_, ⟨Lc2_, hQ2_, l2_, y2_, z2_⟩, st2_⟩ := Jvm.LawKit.callS X1_ hx (y := (⟨"java/lang/Math", "max", "(II)I"⟩ : MethodName)) hown (mvT hZ (hw _ (List.mem_of_getElem? (i := 9) rfl))) (mvT hZ (hw _ (List.mem_of_getElem? (i := 10) rfl))) (mvT hZ (hw _ (List.mem_of_getElem? (i := 11) rfl))) (mvT hZ (hw _ (List.mem_of_getElem? (i := 12) rfl))) (by decide) (backOf (W := 0) (rmMax l Z a0 hw [] (1 : Int32) (i2 &&& (2147483647 : Int32)) m2 h0 n0 sz hm2) hZ (hw _ (List.mem_of_getElem? (i := 12) rfl)) (hw _ (List.mem_of_getElem? (i := 11) rfl)) (by decide) (by decide)) (g := (mkF m 16 #[.val (.int i0), .val (.int i1), .val (.int i2), .val (.ref oe), .val (.int n), .unset, .unset] [(.int (i2 &&& (2147483647 : Int32))), (.int (1 : Int32))])) rfl (by rw [hml]; rfl) (argsL := [(.int (1 : Int32)), (.int (i2 &&& (2147483647 : Int32)))]) (rest := []) (lenOf pd__28II_29I rfl) rfl (by show 2 * 0 + _ ≤ _; exact Nat.le_of_eq rfl) (hb hby at_16) (fun _ _ => ⟨rfl, e1_, (by decide : 0 + 0 ≤ _), (by decide : 0 + 0 ≤ _)⟩)
    dsimp only [Pt.U, Pt.locs, Pt.cells, Pt.slots] at X2_ l2_ y2_ z2_ st2_ hQ2_
    subst l2_ y2_ z2_
    obtain ⟨rfl, N2_q, e2_⟩ := hQ2_
    have N2_ := Fr.app N1_ N2_q
    refine Runs.st (st2_) ?_
    replace X2_ := wider X2_ (c' := 0) (s' := 0) (by decide) (by decide)
    show Runs p.tables e below _ (T2_.setTop (mkF m 19 #[.val (.int i0), .val (.int i1), .val (.int i2), .val (.ref oe), .val (.int n), .unset, .unset] [(.int m2)]))
    refine Runs.st (fun t' k' => XS.istore X2_.here hx rfl (hb hby at_19) rfl (l' := #[.val (.int i0), .val (.int i1), .val (.int i2), .val (.ref oe), .val (.int n), .val (.int m2), .unset]) rfl k') ?_
    show Runs p.tables e below _ (T2_.setTop (mkF m 21 #[.val (.int i0), .val (.int i1), .val (.int i2), .val (.ref oe), .val (.int n), .val (.int m2), .unset] []))
    refine Runs.st (fun t' k' => XS.aloadN X2_.here hx rfl (hb hby at_21) rfl rfl k') ?_
    show Runs p.tables e below _ (T2_.setTop (mkF m 22 #[.val (.int i0), .val (.int i1), .val (.int i2), .val (.ref oe), .val (.int n), .val (.int m2), .unset] [(.ref oe)]))
    refine Runs.st (fun t' k' => XS.iload X2_.here hx rfl (hb hby at_22) rfl k') ?_
    show Runs p.tables e below _ (T2_.setTop (mkF m 24 #[.val (.int i0), .val (.int i1), .val (.int i2), .val (.ref oe), .val (.int n), .val (.int m2), .unset] [(.int n), (.ref oe)]))
    obtain ⟨cq3_, kq3_, q3_a, q3_b, q3_c⟩ := isOf hZ e2_ E0
    obtain ⟨_, _, ⟨T3_, L3_, k3_, n3_⟩, -, X3_, ⟨Lc3_, hQ3_, l3_, y3_, z3_⟩, st3_⟩ := X2_.virtualBack hx (y := (⟨"com/example/attribute_to_audience/attributetoaudience/model/Operator", "holds", "(I)Z"⟩ : MethodName)) (z := (⟨"com/example/attribute_to_audience/attributetoaudience/model/Operator", "holds", "(I)Z"⟩ : MethodName)) hown (mvT hZ (hw _ (List.mem_of_getElem? (i := 13) rfl))) (mvT hZ (hw _ (List.mem_of_getElem? (i := 14) rfl))) (notFace_of_selects (args := #[]) (mvT hZ (hw _ (List.mem_of_getElem? (i := 16) rfl)))) (mvT hZ (hw _ (List.mem_of_getElem? (i := 16) rfl))) (mvT hZ (hw _ (List.mem_of_getElem? (i := 15) rfl))) (by decide) (backOf (W := 0) (rmHolds l Z a0 hw [] oe n (0 : Int32) (0 : Int32) h0 n0 sz E0 O0 (Or.inl ⟨rfl, Or.inr ⟨nne, rfl⟩⟩)) hZ (hw _ (List.mem_of_getElem? (i := 17) rfl)) (hw _ (List.mem_of_getElem? (i := 6) rfl)) (by decide) (by decide)) q3_a q3_c (g := (mkF m 24 #[.val (.int i0), .val (.int i1), .val (.int i2), .val (.ref oe), .val (.int n), .val (.int m2), .unset] [(.int n), (.ref oe)])) rfl (by rw [hml]; rfl) (Steps.refl _) (argsL := [(.int n)]) (rest := []) (lenOf pd__28I_29Z rfl) rfl (by show 2 * 0 + _ ≤ _; exact Nat.le_of_eq rfl) (hb hby at_24) (fun _ _ => ⟨rfl, e2_, (by decide : 0 + 0 ≤ _), (by decide : 0 + 0 ≤ _)⟩)
    dsimp only [Pt.U, Pt.locs, Pt.cells, Pt.slots] at X3_ l3_ y3_ z3_ st3_ hQ3_
    subst l3_ y3_ z3_
    obtain ⟨rfl, N3_q, e3_⟩ := hQ3_
    have N3_ := Fr.app N2_ N3_q
    refine Runs.tr st3_ ?_
    replace X3_ := wider X3_ (c' := 0) (s' := 0) (by decide) (by decide)
    show Runs p.tables e below _ (T3_.setTop (mkF m 27 #[.val (.int i0), .val (.int i1), .val (.int i2), .val (.ref oe), .val (.int n), .val (.int m2), .unset] [(.int (0 : Int32))]))
    refine Runs.st (fun t' k' => XS.aloadN X3_.here hx rfl (hb hby at_27) rfl rfl k') ?_
    show Runs p.tables e below _ (T3_.setTop (mkF m 28 #[.val (.int i0), .val (.int i1), .val (.int i2), .val (.ref oe), .val (.int n), .val (.int m2), .unset] [(.ref oe), (.int (0 : Int32))]))
    refine Runs.st (fun t' k' => XS.iload X3_.here hx rfl (hb hby at_28) rfl k') ?_
    show Runs p.tables e below _ (T3_.setTop (mkF m 30 #[.val (.int i0), .val (.int i1), .val (.int i2), .val (.ref oe), .val (.int n), .val (.int m2), .unset] [(.int m2), (.ref oe), (.int (0 : Int32))]))
    obtain ⟨cq4_, kq4_, q4_a, q4_b, q4_c⟩ := isOf hZ e3_ E0
    obtain ⟨_, _, ⟨T4_, L4_, k4_, n4_⟩, -, X4_, ⟨Lc4_, hQ4_, l4_, y4_, z4_⟩, st4_⟩ := X3_.virtualBack hx (y := (⟨"com/example/attribute_to_audience/attributetoaudience/model/Operator", "holds", "(I)Z"⟩ : MethodName)) (z := (⟨"com/example/attribute_to_audience/attributetoaudience/model/Operator", "holds", "(I)Z"⟩ : MethodName)) hown (mvT hZ (hw _ (List.mem_of_getElem? (i := 13) rfl))) (mvT hZ (hw _ (List.mem_of_getElem? (i := 14) rfl))) (notFace_of_selects (args := #[]) (mvT hZ (hw _ (List.mem_of_getElem? (i := 16) rfl)))) (mvT hZ (hw _ (List.mem_of_getElem? (i := 16) rfl))) (mvT hZ (hw _ (List.mem_of_getElem? (i := 15) rfl))) (by decide) (backOf (W := 1) (rmHolds l Z a0 hw [] oe m2 (0 : Int32) (0 : Int32) h0 n0 sz E0 O0 (Or.inl ⟨rfl, Or.inr ⟨mne, rfl⟩⟩)) hZ (hw _ (List.mem_of_getElem? (i := 17) rfl)) (hw _ (List.mem_of_getElem? (i := 6) rfl)) (by decide) (by decide)) q4_a q4_c (g := (mkF m 30 #[.val (.int i0), .val (.int i1), .val (.int i2), .val (.ref oe), .val (.int n), .val (.int m2), .unset] [(.int m2), (.ref oe), (.int (0 : Int32))])) rfl (by rw [hml]; rfl) (Steps.refl _) (argsL := [(.int m2)]) (rest := [(.int (0 : Int32))]) (lenOf pd__28I_29Z rfl) rfl (by show 2 * 0 + _ ≤ _; exact Nat.le_of_eq rfl) (hb hby at_30) (fun _ _ => ⟨rfl, e3_, (by decide : 0 + 0 ≤ _), (by decide : 0 + 0 ≤ _)⟩)
    dsimp only [Pt.U, Pt.locs, Pt.cells, Pt.slots] at X4_ l4_ y4_ z4_ st4_ hQ4_
    subst l4_ y4_ z4_
    obtain ⟨rfl, N4_q, e4_⟩ := hQ4_
    have N4_ := Fr.app N3_ N4_q
    refine Runs.tr st4_ ?_
    replace X4_ := wider X4_ (c' := 0) (s' := 0) (by decide) (by decide)
    show Runs p.tables e below _ (T4_.setTop (mkF m 33 #[.val (.int i0), .val (.int i1), .val (.int i2), .val (.ref oe), .val (.int n), .val (.int m2), .unset] [(.int (0 : Int32)), (.int (0 : Int32))]))
    refine Runs.st (fun t' k' => XS.icmpNo X4_.here hx rfl (hb hby at_33) rfl (teq rfl).2 k') ?_
    show Runs p.tables e below _ (T4_.setTop (mkF m 36 #[.val (.int i0), .val (.int i1), .val (.int i2), .val (.ref oe), .val (.int n), .val (.int m2), .unset] []))
    refine Runs.st (fun t' k' => XS.iconst X4_.here hx rfl (hb hby at_36) k') ?_
    show Runs p.tables e below _ (T4_.setTop (mkF m 37 #[.val (.int i0), .val (.int i1), .val (.int i2), .val (.ref oe), .val (.int n), .val (.int m2), .unset] [(.int (1 : Int32))]))
    refine Runs.st (fun t' k' => XS.goto X4_.here hx rfl (pc0 := 37) (pc' := 41) rfl (hb hby at_37) (by decide) (by decide) k') ?_
    show Runs p.tables e below _ (T4_.setTop (mkF m 41 #[.val (.int i0), .val (.int i1), .val (.int i2), .val (.ref oe), .val (.int n), .val (.int m2), .unset] [(.int (1 : Int32))]))
    refine Runs.st (fun t' k' => XS.istore X4_.here hx rfl (hb hby at_41) rfl (l' := #[.val (.int i0), .val (.int i1), .val (.int i2), .val (.ref oe), .val (.int n), .val (.int m2), .val (.int (1 : Int32))]) rfl k') ?_
    show Runs p.tables e below _ (T4_.setTop (mkF m 43 #[.val (.int i0), .val (.int i1), .val (.int i2), .val (.ref oe), .val (.int n), .val (.int m2), .val (.int (1 : Int32))] []))
    refine Runs.st (fun t' k' => XS.aloadN X4_.here hx rfl (hb hby at_43) rfl rfl k') ?_
    show Runs p.tables e below _ (T4_.setTop (mkF m 44 #[.val (.int i0), .val (.int i1), .val (.int i2), .val (.ref oe), .val (.int n), .val (.int m2), .val (.int (1 : Int32))] [(.ref oe)]))
    obtain ⟨cq5_, kq5_, q5_a, q5_b, q5_c⟩ := isOf hZ e4_ E0
    obtain ⟨_, _, ⟨T5_, L5_, k5_, n5_⟩, -, X5_, ⟨Lc5_, hQ5_, l5_, y5_, z5_⟩, st5_⟩ := X4_.virtualBack hx (y := (⟨"com/example/attribute_to_audience/attributetoaudience/model/Operator", "isEquality", "()Z"⟩ : MethodName)) (z := (⟨"com/example/attribute_to_audience/attributetoaudience/model/Operator", "isEquality", "()Z"⟩ : MethodName)) hown (mvT hZ (hw _ (List.mem_of_getElem? (i := 27) rfl))) (mvT hZ (hw _ (List.mem_of_getElem? (i := 28) rfl))) (notFace_of_selects (args := #[]) (mvT hZ (hw _ (List.mem_of_getElem? (i := 30) rfl)))) (mvT hZ (hw _ (List.mem_of_getElem? (i := 30) rfl))) (mvT hZ (hw _ (List.mem_of_getElem? (i := 29) rfl))) (by decide) (backOf (W := 0) (rmEq l Z a0 hw [] oe oe one (1 : Int32) h0 n0 sz S0 S1 (Or.inl ⟨Or.inl rfl, rfl⟩)) hZ (hw _ (List.mem_of_getElem? (i := 31) rfl)) (hw _ (List.mem_of_getElem? (i := 6) rfl)) (by decide) (by decide)) q5_a q5_c (g := (mkF m 44 #[.val (.int i0), .val (.int i1), .val (.int i2), .val (.ref oe), .val (.int n), .val (.int m2), .val (.int (1 : Int32))] [(.ref oe)])) rfl (by rw [hml]; rfl) (Steps.refl _) (argsL := []) (rest := []) (lenOf pd__28_29Z rfl) rfl (by show 2 * 0 + _ ≤ _; exact Nat.le_of_eq rfl) (hb hby at_44) (fun _ _ => ⟨rfl, e4_, (by decide : 0 + 0 ≤ _), (by decide : 0 + 0 ≤ _)⟩)
    dsimp only [Pt.U, Pt.locs, Pt.cells, Pt.slots] at X5_ l5_ y5_ z5_ st5_ hQ5_
    subst l5_ y5_ z5_
    obtain ⟨rfl, N5_q, e5_⟩ := hQ5_
    have N5_ := Fr.app N4_ N5_q
    refine Runs.tr st5_ ?_
    replace X5_ := wider X5_ (c' := 0) (s' := 0) (by decide) (by decide)
    show Runs p.tables e below _ (T5_.setTop (mkF m 47 #[.val (.int i0), .val (.int i1), .val (.int i2), .val (.ref oe), .val (.int n), .val (.int m2), .val (.int (1 : Int32))] [(.int (1 : Int32))]))
    refine Runs.st (fun t' k' => XS.iload X5_.here hx rfl (hb hby at_47) rfl k') ?_
    show Runs p.tables e below _ (T5_.setTop (mkF m 49 #[.val (.int i0), .val (.int i1), .val (.int i2), .val (.ref oe), .val (.int n), .val (.int m2), .val (.int (1 : Int32))] [(.int (1 : Int32)), (.int (1 : Int32))]))
    refine Runs.st (fun t' k' => XS.icmpNo X5_.here hx rfl (hb hby at_49) rfl (teq rfl).2 k') ?_
    show Runs p.tables e below _ (T5_.setTop (mkF m 52 #[.val (.int i0), .val (.int i1), .val (.int i2), .val (.ref oe), .val (.int n), .val (.int m2), .val (.int (1 : Int32))] []))
    refine Runs.st (fun t' k' => XS.iconst X5_.here hx rfl (hb hby at_52) k') ?_
    show Runs p.tables e below _ (T5_.setTop (mkF m 53 #[.val (.int i0), .val (.int i1), .val (.int i2), .val (.ref oe), .val (.int n), .val (.int m2), .val (.int (1 : Int32))] [(.int (1 : Int32))]))
    refine Runs.st (fun t' k' => XS.goto X5_.here hx rfl (pc0 := 53) (pc' := 57) rfl (hb hby at_53) (by decide) (by decide) k') ?_
    show Runs p.tables e below _ (T5_.setTop (mkF m 57 #[.val (.int i0), .val (.int i1), .val (.int i2), .val (.ref oe), .val (.int n), .val (.int m2), .val (.int (1 : Int32))] [(.int (1 : Int32))]))
    refine Runs.ret X5_ hlk (v := (some (.int (1 : Int32)))) (fun h => by rw [hret] at h; cases h) (by decide) (by decide) ?_ (fun fs hr => retN X5_ hx (t := .boolean) hret (by simp) (hb hby at_57) hr)
    try rw [e5_]
    exact ⟨rfl, N5_⟩
  · skip
    refine Runs.st (fun t' k' => XS.iloadN X0.here hx rfl (hb hby at_0) rfl k') ?_
    show Runs p.tables e below _ (s₁.setTop (mkF m 1 #[.val (.int i0), .val (.int i1), .val (.int i2), .unset, .unset, .unset, .unset] [(.int i0)]))
    obtain ⟨_, _, ⟨T6_, L6_, k6_, n6_⟩, -, X6_, ⟨Lc6_, hQ6_, l6_, y6_, z6_⟩, st6_⟩ := Jvm.LawKit.callS X0 hx (y := (⟨"com/example/attribute_to_audience/attributetoaudience/model/OperatorIsEqualityPinLaw", "pick", "(I)Lcom/example/attribute_to_audience/attributetoaudience/model/Operator;"⟩ : MethodName)) hown (mvT hZ (hw _ (List.mem_of_getElem? (i := 0) rfl))) (mvT hZ (hw _ (List.mem_of_getElem? (i := 1) rfl))) (mvT hZ (hw _ (List.mem_of_getElem? (i := 2) rfl))) (mvT hZ (hw _ (List.mem_of_getElem? (i := 3) rfl))) (by decide) (backOf (W := 0) (rmPick l Z a0 hw [] i0 one oe one ol ole og oge h0 n0 sz S0 S1 S2 S3 S4 S5 (Or.inr (Or.inl ⟨hj, rfl⟩))) hZ (hw _ (List.mem_of_getElem? (i := 3) rfl)) (hw _ (List.mem_of_getElem? (i := 2) rfl)) (by decide) (by decide)) (g := (mkF m 1 #[.val (.int i0), .val (.int i1), .val (.int i2), .unset, .unset, .unset, .unset] [(.int i0)])) rfl (by rw [hml]; rfl) (argsL := [(.int i0)]) (rest := []) (lenOf pd__28I_29Lcom_2fexample_2fattribute_to_audience_2fattributetoaudience_2fmodel_2fOperator_3b rfl) rfl (by show 2 * 0 + _ ≤ _; exact Nat.le_of_eq rfl) (hb hby at_1) (fun _ _ => ⟨rfl, e0, (by decide : 0 + 0 ≤ _), (by decide : 0 + 0 ≤ _)⟩)
    dsimp only [Pt.U, Pt.locs, Pt.cells, Pt.slots] at X6_ l6_ y6_ z6_ st6_ hQ6_
    subst l6_ y6_ z6_
    obtain ⟨rfl, N6_q, e6_⟩ := hQ6_
    have N6_ := Fr.app N0 N6_q
    refine Runs.st (st6_) ?_
    replace X6_ := wider X6_ (c' := 0) (s' := 0) (by decide) (by decide)
    show Runs p.tables e below _ (T6_.setTop (mkF m 4 #[.val (.int i0), .val (.int i1), .val (.int i2), .unset, .unset, .unset, .unset] [(.ref one)]))
    refine Runs.st (fun t' k' => XS.astoreN X6_.here hx rfl (hb hby at_4) rfl rfl (l' := #[.val (.int i0), .val (.int i1), .val (.int i2), .val (.ref one), .unset, .unset, .unset]) rfl k') ?_
    show Runs p.tables e below _ (T6_.setTop (mkF m 5 #[.val (.int i0), .val (.int i1), .val (.int i2), .val (.ref one), .unset, .unset, .unset] []))
    refine Runs.st (fun t' k' => XS.iloadN X6_.here hx rfl (hb hby at_5) rfl k') ?_
    show Runs p.tables e below _ (T6_.setTop (mkF m 6 #[.val (.int i0), .val (.int i1), .val (.int i2), .val (.ref one), .unset, .unset, .unset] [(.int i1)]))
    refine Runs.st (fun t' k' => X6_.ldcInt hx hown (mvT hZ (hw _ (List.mem_of_getElem? (i := 8) rfl))) (g := (mkF m 6 #[.val (.int i0), .val (.int i1), .val (.int i2), .val (.ref one), .unset, .unset, .unset] [(.int i1)])) rfl (hb hby at_6) t' k') ?_
    show Runs p.tables e below _ (T6_.setTop (mkF m 8 #[.val (.int i0), .val (.int i1), .val (.int i2), .val (.ref one), .unset, .unset, .unset] [(.int (-2147483648 : Int32)), (.int i1)]))
    refine Runs.st (fun t' k' => XS.ior X6_.here hx rfl (hb hby at_8) rfl k') ?_
    show Runs p.tables e below _ (T6_.setTop (mkF m 9 #[.val (.int i0), .val (.int i1), .val (.int i2), .val (.ref one), .unset, .unset, .unset] [(.int (i1 ||| (-2147483648 : Int32)))]))
    rw [← hn]
    refine Runs.st (fun t' k' => XS.istore X6_.here hx rfl (hb hby at_9) rfl (l' := #[.val (.int i0), .val (.int i1), .val (.int i2), .val (.ref one), .val (.int n), .unset, .unset]) rfl k') ?_
    show Runs p.tables e below _ (T6_.setTop (mkF m 11 #[.val (.int i0), .val (.int i1), .val (.int i2), .val (.ref one), .val (.int n), .unset, .unset] []))
    refine Runs.st (fun t' k' => XS.iconst X6_.here hx rfl (hb hby at_11) k') ?_
    show Runs p.tables e below _ (T6_.setTop (mkF m 12 #[.val (.int i0), .val (.int i1), .val (.int i2), .val (.ref one), .val (.int n), .unset, .unset] [(.int (1 : Int32))]))
    refine Runs.st (fun t' k' => XS.iloadN X6_.here hx rfl (hb hby at_12) rfl k') ?_
    show Runs p.tables e below _ (T6_.setTop (mkF m 13 #[.val (.int i0), .val (.int i1), .val (.int i2), .val (.ref one), .val (.int n), .unset, .unset] [(.int i2), (.int (1 : Int32))]))
    refine Runs.st (fun t' k' => X6_.ldcInt hx hown (mvT hZ (hw _ (List.mem_of_getElem? (i := 4) rfl))) (g := (mkF m 13 #[.val (.int i0), .val (.int i1), .val (.int i2), .val (.ref one), .val (.int n), .unset, .unset] [(.int i2), (.int (1 : Int32))])) rfl (hb hby at_13) t' k') ?_
    show Runs p.tables e below _ (T6_.setTop (mkF m 15 #[.val (.int i0), .val (.int i1), .val (.int i2), .val (.ref one), .val (.int n), .unset, .unset] [(.int (2147483647 : Int32)), (.int i2), (.int (1 : Int32))]))
    refine Runs.st (fun t' k' => XS.iand X6_.here hx rfl (hb hby at_15) rfl k') ?_
    show Runs p.tables e below _ (T6_.setTop (mkF m 16 #[.val (.int i0), .val (.int i1), .val (.int i2), .val (.ref one), .val (.int n), .unset, .unset] [(.int (i2 &&& (2147483647 : Int32))), (.int (1 : Int32))]))
    obtain ⟨_, _, ⟨T7_, L7_, k7_, n7_⟩, -, X7_, ⟨Lc7_, hQ7_, l7_, y7_, z7_⟩, st7_⟩ := Jvm.LawKit.callS X6_ hx (y := (⟨"java/lang/Math", "max", "(II)I"⟩ : MethodName)) hown (mvT hZ (hw _ (List.mem_of_getElem? (i := 9) rfl))) (mvT hZ (hw _ (List.mem_of_getElem? (i := 10) rfl))) (mvT hZ (hw _ (List.mem_of_getElem? (i := 11) rfl))) (mvT hZ (hw _ (List.mem_of_getElem? (i := 12) rfl))) (by decide) (backOf (W := 0) (rmMax l Z a0 hw [] (1 : Int32) (i2 &&& (2147483647 : Int32)) m2 h0 n0 sz hm2) hZ (hw _ (List.mem_of_getElem? (i := 12) rfl)) (hw _ (List.mem_of_getElem? (i := 11) rfl)) (by decide) (by decide)) (g := (mkF m 16 #[.val (.int i0), .val (.int i1), .val (.int i2), .val (.ref one), .val (.int n), .unset, .unset] [(.int (i2 &&& (2147483647 : Int32))), (.int (1 : Int32))])) rfl (by rw [hml]; rfl) (argsL := [(.int (1 : Int32)), (.int (i2 &&& (2147483647 : Int32)))]) (rest := []) (lenOf pd__28II_29I rfl) rfl (by show 2 * 0 + _ ≤ _; exact Nat.le_of_eq rfl) (hb hby at_16) (fun _ _ => ⟨rfl, e6_, (by decide : 0 + 0 ≤ _), (by decide : 0 + 0 ≤ _)⟩)
    dsimp only [Pt.U, Pt.locs, Pt.cells, Pt.slots] at X7_ l7_ y7_ z7_ st7_ hQ7_
    subst l7_ y7_ z7_
    obtain ⟨rfl, N7_q, e7_⟩ := hQ7_
    have N7_ := Fr.app N6_ N7_q
    refine Runs.st (st7_) ?_
    replace X7_ := wider X7_ (c' := 0) (s' := 0) (by decide) (by decide)
    show Runs p.tables e below _ (T7_.setTop (mkF m 19 #[.val (.int i0), .val (.int i1), .val (.int i2), .val (.ref one), .val (.int n), .unset, .unset] [(.int m2)]))
    refine Runs.st (fun t' k' => XS.istore X7_.here hx rfl (hb hby at_19) rfl (l' := #[.val (.int i0), .val (.int i1), .val (.int i2), .val (.ref one), .val (.int n), .val (.int m2), .unset]) rfl k') ?_
    show Runs p.tables e below _ (T7_.setTop (mkF m 21 #[.val (.int i0), .val (.int i1), .val (.int i2), .val (.ref one), .val (.int n), .val (.int m2), .unset] []))
    refine Runs.st (fun t' k' => XS.aloadN X7_.here hx rfl (hb hby at_21) rfl rfl k') ?_
    show Runs p.tables e below _ (T7_.setTop (mkF m 22 #[.val (.int i0), .val (.int i1), .val (.int i2), .val (.ref one), .val (.int n), .val (.int m2), .unset] [(.ref one)]))
    refine Runs.st (fun t' k' => XS.iload X7_.here hx rfl (hb hby at_22) rfl k') ?_
    show Runs p.tables e below _ (T7_.setTop (mkF m 24 #[.val (.int i0), .val (.int i1), .val (.int i2), .val (.ref one), .val (.int n), .val (.int m2), .unset] [(.int n), (.ref one)]))
    obtain ⟨cq8_, kq8_, q8_a, q8_b, q8_c⟩ := isOf hZ e7_ E1
    obtain ⟨_, _, ⟨T8_, L8_, k8_, n8_⟩, -, X8_, ⟨Lc8_, hQ8_, l8_, y8_, z8_⟩, st8_⟩ := X7_.virtualBack hx (y := (⟨"com/example/attribute_to_audience/attributetoaudience/model/Operator", "holds", "(I)Z"⟩ : MethodName)) (z := (⟨"com/example/attribute_to_audience/attributetoaudience/model/Operator", "holds", "(I)Z"⟩ : MethodName)) hown (mvT hZ (hw _ (List.mem_of_getElem? (i := 13) rfl))) (mvT hZ (hw _ (List.mem_of_getElem? (i := 14) rfl))) (notFace_of_selects (args := #[]) (mvT hZ (hw _ (List.mem_of_getElem? (i := 16) rfl)))) (mvT hZ (hw _ (List.mem_of_getElem? (i := 16) rfl))) (mvT hZ (hw _ (List.mem_of_getElem? (i := 15) rfl))) (by decide) (backOf (W := 0) (rmHolds l Z a0 hw [] one n (1 : Int32) (1 : Int32) h0 n0 sz E1 O1 (Or.inr (Or.inl ⟨rfl, Or.inr ⟨nne, rfl⟩⟩))) hZ (hw _ (List.mem_of_getElem? (i := 17) rfl)) (hw _ (List.mem_of_getElem? (i := 6) rfl)) (by decide) (by decide)) q8_a q8_c (g := (mkF m 24 #[.val (.int i0), .val (.int i1), .val (.int i2), .val (.ref one), .val (.int n), .val (.int m2), .unset] [(.int n), (.ref one)])) rfl (by rw [hml]; rfl) (Steps.refl _) (argsL := [(.int n)]) (rest := []) (lenOf pd__28I_29Z rfl) rfl (by show 2 * 0 + _ ≤ _; exact Nat.le_of_eq rfl) (hb hby at_24) (fun _ _ => ⟨rfl, e7_, (by decide : 0 + 0 ≤ _), (by decide : 0 + 0 ≤ _)⟩)
    dsimp only [Pt.U, Pt.locs, Pt.cells, Pt.slots] at X8_ l8_ y8_ z8_ st8_ hQ8_
    subst l8_ y8_ z8_
    obtain ⟨rfl, N8_q, e8_⟩ := hQ8_
    have N8_ := Fr.app N7_ N8_q
    refine Runs.tr st8_ ?_
    replace X8_ := wider X8_ (c' := 0) (s' := 0) (by decide) (by decide)
    show Runs p.tables e below _ (T8_.setTop (mkF m 27 #[.val (.int i0), .val (.int i1), .val (.int i2), .val (.ref one), .val (.int n), .val (.int m2), .unset] [(.int (1 : Int32))]))
    refine Runs.st (fun t' k' => XS.aloadN X8_.here hx rfl (hb hby at_27) rfl rfl k') ?_
    show Runs p.tables e below _ (T8_.setTop (mkF m 28 #[.val (.int i0), .val (.int i1), .val (.int i2), .val (.ref one), .val (.int n), .val (.int m2), .unset] [(.ref one), (.int (1 : Int32))]))
    refine Runs.st (fun t' k' => XS.iload X8_.here hx rfl (hb hby at_28) rfl k') ?_
    show Runs p.tables e below _ (T8_.setTop (mkF m 30 #[.val (.int i0), .val (.int i1), .val (.int i2), .val (.ref one), .val (.int n), .val (.int m2), .unset] [(.int m2), (.ref one), (.int (1 : Int32))]))
    obtain ⟨cq9_, kq9_, q9_a, q9_b, q9_c⟩ := isOf hZ e8_ E1
    obtain ⟨_, _, ⟨T9_, L9_, k9_, n9_⟩, -, X9_, ⟨Lc9_, hQ9_, l9_, y9_, z9_⟩, st9_⟩ := X8_.virtualBack hx (y := (⟨"com/example/attribute_to_audience/attributetoaudience/model/Operator", "holds", "(I)Z"⟩ : MethodName)) (z := (⟨"com/example/attribute_to_audience/attributetoaudience/model/Operator", "holds", "(I)Z"⟩ : MethodName)) hown (mvT hZ (hw _ (List.mem_of_getElem? (i := 13) rfl))) (mvT hZ (hw _ (List.mem_of_getElem? (i := 14) rfl))) (notFace_of_selects (args := #[]) (mvT hZ (hw _ (List.mem_of_getElem? (i := 16) rfl)))) (mvT hZ (hw _ (List.mem_of_getElem? (i := 16) rfl))) (mvT hZ (hw _ (List.mem_of_getElem? (i := 15) rfl))) (by decide) (backOf (W := 1) (rmHolds l Z a0 hw [] one m2 (1 : Int32) (1 : Int32) h0 n0 sz E1 O1 (Or.inr (Or.inl ⟨rfl, Or.inr ⟨mne, rfl⟩⟩))) hZ (hw _ (List.mem_of_getElem? (i := 17) rfl)) (hw _ (List.mem_of_getElem? (i := 6) rfl)) (by decide) (by decide)) q9_a q9_c (g := (mkF m 30 #[.val (.int i0), .val (.int i1), .val (.int i2), .val (.ref one), .val (.int n), .val (.int m2), .unset] [(.int m2), (.ref one), (.int (1 : Int32))])) rfl (by rw [hml]; rfl) (Steps.refl _) (argsL := [(.int m2)]) (rest := [(.int (1 : Int32))]) (lenOf pd__28I_29Z rfl) rfl (by show 2 * 0 + _ ≤ _; exact Nat.le_of_eq rfl) (hb hby at_30) (fun _ _ => ⟨rfl, e8_, (by decide : 0 + 0 ≤ _), (by decide : 0 + 0 ≤ _)⟩)
    dsimp only [Pt.U, Pt.locs, Pt.cells, Pt.slots] at X9_ l9_ y9_ z9_ st9_ hQ9_
    subst l9_ y9_ z9_
    obtain ⟨rfl, N9_q, e9_⟩ := hQ9_
    have N9_ := Fr.app N8_ N9_q
    refine Runs.tr st9_ ?_
    replace X9_ := wider X9_ (c' := 0) (s' := 0) (by decide) (by decide)
    show Runs p.tables e below _ (T9_.setTop (mkF m 33 #[.val (.int i0), .val (.int i1), .val (.int i2), .val (.ref one), .val (.int n), .val (.int m2), .unset] [(.int (1 : Int32)), (.int (1 : Int32))]))
    refine Runs.st (fun t' k' => XS.icmpNo X9_.here hx rfl (hb hby at_33) rfl (teq rfl).2 k') ?_
    show Runs p.tables e below _ (T9_.setTop (mkF m 36 #[.val (.int i0), .val (.int i1), .val (.int i2), .val (.ref one), .val (.int n), .val (.int m2), .unset] []))
    refine Runs.st (fun t' k' => XS.iconst X9_.here hx rfl (hb hby at_36) k') ?_
    show Runs p.tables e below _ (T9_.setTop (mkF m 37 #[.val (.int i0), .val (.int i1), .val (.int i2), .val (.ref one), .val (.int n), .val (.int m2), .unset] [(.int (1 : Int32))]))
    refine Runs.st (fun t' k' => XS.goto X9_.here hx rfl (pc0 := 37) (pc' := 41) rfl (hb hby at_37) (by decide) (by decide) k') ?_
    show Runs p.tables e below _ (T9_.setTop (mkF m 41 #[.val (.int i0), .val (.int i1), .val (.int i2), .val (.ref one), .val (.int n), .val (.int m2), .unset] [(.int (1 : Int32))]))
    refine Runs.st (fun t' k' => XS.istore X9_.here hx rfl (hb hby at_41) rfl (l' := #[.val (.int i0), .val (.int i1), .val (.int i2), .val (.ref one), .val (.int n), .val (.int m2), .val (.int (1 : Int32))]) rfl k') ?_
    show Runs p.tables e below _ (T9_.setTop (mkF m 43 #[.val (.int i0), .val (.int i1), .val (.int i2), .val (.ref one), .val (.int n), .val (.int m2), .val (.int (1 : Int32))] []))
    refine Runs.st (fun t' k' => XS.aloadN X9_.here hx rfl (hb hby at_43) rfl rfl k') ?_
    show Runs p.tables e below _ (T9_.setTop (mkF m 44 #[.val (.int i0), .val (.int i1), .val (.int i2), .val (.ref one), .val (.int n), .val (.int m2), .val (.int (1 : Int32))] [(.ref one)]))
    obtain ⟨cq10_, kq10_, q10_a, q10_b, q10_c⟩ := isOf hZ e9_ E1
    obtain ⟨_, _, ⟨T10_, L10_, k10_, n10_⟩, -, X10_, ⟨Lc10_, hQ10_, l10_, y10_, z10_⟩, st10_⟩ := X9_.virtualBack hx (y := (⟨"com/example/attribute_to_audience/attributetoaudience/model/Operator", "isEquality", "()Z"⟩ : MethodName)) (z := (⟨"com/example/attribute_to_audience/attributetoaudience/model/Operator", "isEquality", "()Z"⟩ : MethodName)) hown (mvT hZ (hw _ (List.mem_of_getElem? (i := 27) rfl))) (mvT hZ (hw _ (List.mem_of_getElem? (i := 28) rfl))) (notFace_of_selects (args := #[]) (mvT hZ (hw _ (List.mem_of_getElem? (i := 30) rfl)))) (mvT hZ (hw _ (List.mem_of_getElem? (i := 30) rfl))) (mvT hZ (hw _ (List.mem_of_getElem? (i := 29) rfl))) (by decide) (backOf (W := 0) (rmEq l Z a0 hw [] one oe one (1 : Int32) h0 n0 sz S0 S1 (Or.inl ⟨Or.inr rfl, rfl⟩)) hZ (hw _ (List.mem_of_getElem? (i := 31) rfl)) (hw _ (List.mem_of_getElem? (i := 6) rfl)) (by decide) (by decide)) q10_a q10_c (g := (mkF m 44 #[.val (.int i0), .val (.int i1), .val (.int i2), .val (.ref one), .val (.int n), .val (.int m2), .val (.int (1 : Int32))] [(.ref one)])) rfl (by rw [hml]; rfl) (Steps.refl _) (argsL := []) (rest := []) (lenOf pd__28_29Z rfl) rfl (by show 2 * 0 + _ ≤ _; exact Nat.le_of_eq rfl) (hb hby at_44) (fun _ _ => ⟨rfl, e9_, (by decide : 0 + 0 ≤ _), (by decide : 0 + 0 ≤ _)⟩)
    dsimp only [Pt.U, Pt.locs, Pt.cells, Pt.slots] at X10_ l10_ y10_ z10_ st10_ hQ10_
    subst l10_ y10_ z10_
    obtain ⟨rfl, N10_q, e10_⟩ := hQ10_
    have N10_ := Fr.app N9_ N10_q
    refine Runs.tr st10_ ?_
    replace X10_ := wider X10_ (c' := 0) (s' := 0) (by decide) (by decide)
    show Runs p.tables e below _ (T10_.setTop (mkF m 47 #[.val (.int i0), .val (.int i1), .val (.int i2), .val (.ref one), .val (.int n), .val (.int m2), .val (.int (1 : Int32))] [(.int (1 : Int32))]))
    refine Runs.st (fun t' k' => XS.iload X10_.here hx rfl (hb hby at_47) rfl k') ?_
    show Runs p.tables e below _ (T10_.setTop (mkF m 49 #[.val (.int i0), .val (.int i1), .val (.int i2), .val (.ref one), .val (.int n), .val (.int m2), .val (.int (1 : Int32))] [(.int (1 : Int32)), (.int (1 : Int32))]))
    refine Runs.st (fun t' k' => XS.icmpNo X10_.here hx rfl (hb hby at_49) rfl (teq rfl).2 k') ?_
    show Runs p.tables e below _ (T10_.setTop (mkF m 52 #[.val (.int i0), .val (.int i1), .val (.int i2), .val (.ref one), .val (.int n), .val (.int m2), .val (.int (1 : Int32))] []))
    refine Runs.st (fun t' k' => XS.iconst X10_.here hx rfl (hb hby at_52) k') ?_
    show Runs p.tables e below _ (T10_.setTop (mkF m 53 #[.val (.int i0), .val (.int i1), .val (.int i2), .val (.ref one), .val (.int n), .val (.int m2), .val (.int (1 : Int32))] [(.int (1 : Int32))]))
    refine Runs.st (fun t' k' => XS.goto X10_.here hx rfl (pc0 := 53) (pc' := 57) rfl (hb hby at_53) (by decide) (by decide) k') ?_
    show Runs p.tables e below _ (T10_.setTop (mkF m 57 #[.val (.int i0), .val (.int i1), .val (.int i2), .val (.ref one), .val (.int n), .val (.int m2), .val (.int (1 : Int32))] [(.int (1 : Int32))]))
    refine Runs.ret X10_ hlk (v := (some (.int (1 : Int32)))) (fun h => by rw [hret] at h; cases h) (by decide) (by decide) ?_ (fun fs hr => retN X10_ hx (t := .boolean) hret (by simp) (hb hby at_57) hr)
    try rw [e10_]
    exact ⟨rfl, N10_⟩
  · skip
    refine Runs.st (fun t' k' => XS.iloadN X0.here hx rfl (hb hby at_0) rfl k') ?_
    show Runs p.tables e below _ (s₁.setTop (mkF m 1 #[.val (.int i0), .val (.int i1), .val (.int i2), .unset, .unset, .unset, .unset] [(.int i0)]))
    obtain ⟨_, _, ⟨T11_, L11_, k11_, n11_⟩, -, X11_, ⟨Lc11_, hQ11_, l11_, y11_, z11_⟩, st11_⟩ := Jvm.LawKit.callS X0 hx (y := (⟨"com/example/attribute_to_audience/attributetoaudience/model/OperatorIsEqualityPinLaw", "pick", "(I)Lcom/example/attribute_to_audience/attributetoaudience/model/Operator;"⟩ : MethodName)) hown (mvT hZ (hw _ (List.mem_of_getElem? (i := 0) rfl))) (mvT hZ (hw _ (List.mem_of_getElem? (i := 1) rfl))) (mvT hZ (hw _ (List.mem_of_getElem? (i := 2) rfl))) (mvT hZ (hw _ (List.mem_of_getElem? (i := 3) rfl))) (by decide) (backOf (W := 0) (rmPick l Z a0 hw [] i0 ol oe one ol ole og oge h0 n0 sz S0 S1 S2 S3 S4 S5 (Or.inr (Or.inr (Or.inl ⟨hj, rfl⟩)))) hZ (hw _ (List.mem_of_getElem? (i := 3) rfl)) (hw _ (List.mem_of_getElem? (i := 2) rfl)) (by decide) (by decide)) (g := (mkF m 1 #[.val (.int i0), .val (.int i1), .val (.int i2), .unset, .unset, .unset, .unset] [(.int i0)])) rfl (by rw [hml]; rfl) (argsL := [(.int i0)]) (rest := []) (lenOf pd__28I_29Lcom_2fexample_2fattribute_to_audience_2fattributetoaudience_2fmodel_2fOperator_3b rfl) rfl (by show 2 * 0 + _ ≤ _; exact Nat.le_of_eq rfl) (hb hby at_1) (fun _ _ => ⟨rfl, e0, (by decide : 0 + 0 ≤ _), (by decide : 0 + 0 ≤ _)⟩)
    dsimp only [Pt.U, Pt.locs, Pt.cells, Pt.slots] at X11_ l11_ y11_ z11_ st11_ hQ11_
    subst l11_ y11_ z11_
    obtain ⟨rfl, N11_q, e11_⟩ := hQ11_
    have N11_ := Fr.app N0 N11_q
    refine Runs.st (st11_) ?_
    replace X11_ := wider X11_ (c' := 0) (s' := 0) (by decide) (by decide)
    show Runs p.tables e below _ (T11_.setTop (mkF m 4 #[.val (.int i0), .val (.int i1), .val (.int i2), .unset, .unset, .unset, .unset] [(.ref ol)]))
    refine Runs.st (fun t' k' => XS.astoreN X11_.here hx rfl (hb hby at_4) rfl rfl (l' := #[.val (.int i0), .val (.int i1), .val (.int i2), .val (.ref ol), .unset, .unset, .unset]) rfl k') ?_
    show Runs p.tables e below _ (T11_.setTop (mkF m 5 #[.val (.int i0), .val (.int i1), .val (.int i2), .val (.ref ol), .unset, .unset, .unset] []))
    refine Runs.st (fun t' k' => XS.iloadN X11_.here hx rfl (hb hby at_5) rfl k') ?_
    show Runs p.tables e below _ (T11_.setTop (mkF m 6 #[.val (.int i0), .val (.int i1), .val (.int i2), .val (.ref ol), .unset, .unset, .unset] [(.int i1)]))
    refine Runs.st (fun t' k' => X11_.ldcInt hx hown (mvT hZ (hw _ (List.mem_of_getElem? (i := 8) rfl))) (g := (mkF m 6 #[.val (.int i0), .val (.int i1), .val (.int i2), .val (.ref ol), .unset, .unset, .unset] [(.int i1)])) rfl (hb hby at_6) t' k') ?_
    show Runs p.tables e below _ (T11_.setTop (mkF m 8 #[.val (.int i0), .val (.int i1), .val (.int i2), .val (.ref ol), .unset, .unset, .unset] [(.int (-2147483648 : Int32)), (.int i1)]))
    refine Runs.st (fun t' k' => XS.ior X11_.here hx rfl (hb hby at_8) rfl k') ?_
    show Runs p.tables e below _ (T11_.setTop (mkF m 9 #[.val (.int i0), .val (.int i1), .val (.int i2), .val (.ref ol), .unset, .unset, .unset] [(.int (i1 ||| (-2147483648 : Int32)))]))
    rw [← hn]
    refine Runs.st (fun t' k' => XS.istore X11_.here hx rfl (hb hby at_9) rfl (l' := #[.val (.int i0), .val (.int i1), .val (.int i2), .val (.ref ol), .val (.int n), .unset, .unset]) rfl k') ?_
    show Runs p.tables e below _ (T11_.setTop (mkF m 11 #[.val (.int i0), .val (.int i1), .val (.int i2), .val (.ref ol), .val (.int n), .unset, .unset] []))
    refine Runs.st (fun t' k' => XS.iconst X11_.here hx rfl (hb hby at_11) k') ?_
    show Runs p.tables e below _ (T11_.setTop (mkF m 12 #[.val (.int i0), .val (.int i1), .val (.int i2), .val (.ref ol), .val (.int n), .unset, .unset] [(.int (1 : Int32))]))
    refine Runs.st (fun t' k' => XS.iloadN X11_.here hx rfl (hb hby at_12) rfl k') ?_
    show Runs p.tables e below _ (T11_.setTop (mkF m 13 #[.val (.int i0), .val (.int i1), .val (.int i2), .val (.ref ol), .val (.int n), .unset, .unset] [(.int i2), (.int (1 : Int32))]))
    refine Runs.st (fun t' k' => X11_.ldcInt hx hown (mvT hZ (hw _ (List.mem_of_getElem? (i := 4) rfl))) (g := (mkF m 13 #[.val (.int i0), .val (.int i1), .val (.int i2), .val (.ref ol), .val (.int n), .unset, .unset] [(.int i2), (.int (1 : Int32))])) rfl (hb hby at_13) t' k') ?_
    show Runs p.tables e below _ (T11_.setTop (mkF m 15 #[.val (.int i0), .val (.int i1), .val (.int i2), .val (.ref ol), .val (.int n), .unset, .unset] [(.int (2147483647 : Int32)), (.int i2), (.int (1 : Int32))]))
    refine Runs.st (fun t' k' => XS.iand X11_.here hx rfl (hb hby at_15) rfl k') ?_
    show Runs p.tables e below _ (T11_.setTop (mkF m 16 #[.val (.int i0), .val (.int i1), .val (.int i2), .val (.ref ol), .val (.int n), .unset, .unset] [(.int (i2 &&& (2147483647 : Int32))), (.int (1 : Int32))]))
    obtain ⟨_, _, ⟨T12_, L12_, k12_, n12_⟩, -, X12_, ⟨Lc12_, hQ12_, l12_, y12_, z12_⟩, st12_⟩ := Jvm.LawKit.callS X11_ hx (y := (⟨"java/lang/Math", "max", "(II)I"⟩ : MethodName)) hown (mvT hZ (hw _ (List.mem_of_getElem? (i := 9) rfl))) (mvT hZ (hw _ (List.mem_of_getElem? (i := 10) rfl))) (mvT hZ (hw _ (List.mem_of_getElem? (i := 11) rfl))) (mvT hZ (hw _ (List.mem_of_getElem? (i := 12) rfl))) (by decide) (backOf (W := 0) (rmMax l Z a0 hw [] (1 : Int32) (i2 &&& (2147483647 : Int32)) m2 h0 n0 sz hm2) hZ (hw _ (List.mem_of_getElem? (i := 12) rfl)) (hw _ (List.mem_of_getElem? (i := 11) rfl)) (by decide) (by decide)) (g := (mkF m 16 #[.val (.int i0), .val (.int i1), .val (.int i2), .val (.ref ol), .val (.int n), .unset, .unset] [(.int (i2 &&& (2147483647 : Int32))), (.int (1 : Int32))])) rfl (by rw [hml]; rfl) (argsL := [(.int (1 : Int32)), (.int (i2 &&& (2147483647 : Int32)))]) (rest := []) (lenOf pd__28II_29I rfl) rfl (by show 2 * 0 + _ ≤ _; exact Nat.le_of_eq rfl) (hb hby at_16) (fun _ _ => ⟨rfl, e11_, (by decide : 0 + 0 ≤ _), (by decide : 0 + 0 ≤ _)⟩)
    dsimp only [Pt.U, Pt.locs, Pt.cells, Pt.slots] at X12_ l12_ y12_ z12_ st12_ hQ12_
    subst l12_ y12_ z12_
    obtain ⟨rfl, N12_q, e12_⟩ := hQ12_
    have N12_ := Fr.app N11_ N12_q
    refine Runs.st (st12_) ?_
    replace X12_ := wider X12_ (c' := 0) (s' := 0) (by decide) (by decide)
    show Runs p.tables e below _ (T12_.setTop (mkF m 19 #[.val (.int i0), .val (.int i1), .val (.int i2), .val (.ref ol), .val (.int n), .unset, .unset] [(.int m2)]))
    refine Runs.st (fun t' k' => XS.istore X12_.here hx rfl (hb hby at_19) rfl (l' := #[.val (.int i0), .val (.int i1), .val (.int i2), .val (.ref ol), .val (.int n), .val (.int m2), .unset]) rfl k') ?_
    show Runs p.tables e below _ (T12_.setTop (mkF m 21 #[.val (.int i0), .val (.int i1), .val (.int i2), .val (.ref ol), .val (.int n), .val (.int m2), .unset] []))
    refine Runs.st (fun t' k' => XS.aloadN X12_.here hx rfl (hb hby at_21) rfl rfl k') ?_
    show Runs p.tables e below _ (T12_.setTop (mkF m 22 #[.val (.int i0), .val (.int i1), .val (.int i2), .val (.ref ol), .val (.int n), .val (.int m2), .unset] [(.ref ol)]))
    refine Runs.st (fun t' k' => XS.iload X12_.here hx rfl (hb hby at_22) rfl k') ?_
    show Runs p.tables e below _ (T12_.setTop (mkF m 24 #[.val (.int i0), .val (.int i1), .val (.int i2), .val (.ref ol), .val (.int n), .val (.int m2), .unset] [(.int n), (.ref ol)]))
    obtain ⟨cq13_, kq13_, q13_a, q13_b, q13_c⟩ := isOf hZ e12_ E2
    obtain ⟨_, _, ⟨T13_, L13_, k13_, n13_⟩, -, X13_, ⟨Lc13_, hQ13_, l13_, y13_, z13_⟩, st13_⟩ := X12_.virtualBack hx (y := (⟨"com/example/attribute_to_audience/attributetoaudience/model/Operator", "holds", "(I)Z"⟩ : MethodName)) (z := (⟨"com/example/attribute_to_audience/attributetoaudience/model/Operator", "holds", "(I)Z"⟩ : MethodName)) hown (mvT hZ (hw _ (List.mem_of_getElem? (i := 13) rfl))) (mvT hZ (hw _ (List.mem_of_getElem? (i := 14) rfl))) (notFace_of_selects (args := #[]) (mvT hZ (hw _ (List.mem_of_getElem? (i := 16) rfl)))) (mvT hZ (hw _ (List.mem_of_getElem? (i := 16) rfl))) (mvT hZ (hw _ (List.mem_of_getElem? (i := 15) rfl))) (by decide) (backOf (W := 0) (rmHolds l Z a0 hw [] ol n (2 : Int32) (1 : Int32) h0 n0 sz E2 O2 (Or.inr (Or.inr (Or.inl ⟨rfl, Or.inl ⟨nlt, rfl⟩⟩)))) hZ (hw _ (List.mem_of_getElem? (i := 17) rfl)) (hw _ (List.mem_of_getElem? (i := 6) rfl)) (by decide) (by decide)) q13_a q13_c (g := (mkF m 24 #[.val (.int i0), .val (.int i1), .val (.int i2), .val (.ref ol), .val (.int n), .val (.int m2), .unset] [(.int n), (.ref ol)])) rfl (by rw [hml]; rfl) (Steps.refl _) (argsL := [(.int n)]) (rest := []) (lenOf pd__28I_29Z rfl) rfl (by show 2 * 0 + _ ≤ _; exact Nat.le_of_eq rfl) (hb hby at_24) (fun _ _ => ⟨rfl, e12_, (by decide : 0 + 0 ≤ _), (by decide : 0 + 0 ≤ _)⟩)
    dsimp only [Pt.U, Pt.locs, Pt.cells, Pt.slots] at X13_ l13_ y13_ z13_ st13_ hQ13_
    subst l13_ y13_ z13_
    obtain ⟨rfl, N13_q, e13_⟩ := hQ13_
    have N13_ := Fr.app N12_ N13_q
    refine Runs.tr st13_ ?_
    replace X13_ := wider X13_ (c' := 0) (s' := 0) (by decide) (by decide)
    show Runs p.tables e below _ (T13_.setTop (mkF m 27 #[.val (.int i0), .val (.int i1), .val (.int i2), .val (.ref ol), .val (.int n), .val (.int m2), .unset] [(.int (1 : Int32))]))
    refine Runs.st (fun t' k' => XS.aloadN X13_.here hx rfl (hb hby at_27) rfl rfl k') ?_
    show Runs p.tables e below _ (T13_.setTop (mkF m 28 #[.val (.int i0), .val (.int i1), .val (.int i2), .val (.ref ol), .val (.int n), .val (.int m2), .unset] [(.ref ol), (.int (1 : Int32))]))
    refine Runs.st (fun t' k' => XS.iload X13_.here hx rfl (hb hby at_28) rfl k') ?_
    show Runs p.tables e below _ (T13_.setTop (mkF m 30 #[.val (.int i0), .val (.int i1), .val (.int i2), .val (.ref ol), .val (.int n), .val (.int m2), .unset] [(.int m2), (.ref ol), (.int (1 : Int32))]))
    obtain ⟨cq14_, kq14_, q14_a, q14_b, q14_c⟩ := isOf hZ e13_ E2
    obtain ⟨_, _, ⟨T14_, L14_, k14_, n14_⟩, -, X14_, ⟨Lc14_, hQ14_, l14_, y14_, z14_⟩, st14_⟩ := X13_.virtualBack hx (y := (⟨"com/example/attribute_to_audience/attributetoaudience/model/Operator", "holds", "(I)Z"⟩ : MethodName)) (z := (⟨"com/example/attribute_to_audience/attributetoaudience/model/Operator", "holds", "(I)Z"⟩ : MethodName)) hown (mvT hZ (hw _ (List.mem_of_getElem? (i := 13) rfl))) (mvT hZ (hw _ (List.mem_of_getElem? (i := 14) rfl))) (notFace_of_selects (args := #[]) (mvT hZ (hw _ (List.mem_of_getElem? (i := 16) rfl)))) (mvT hZ (hw _ (List.mem_of_getElem? (i := 16) rfl))) (mvT hZ (hw _ (List.mem_of_getElem? (i := 15) rfl))) (by decide) (backOf (W := 1) (rmHolds l Z a0 hw [] ol m2 (2 : Int32) (0 : Int32) h0 n0 sz E2 O2 (Or.inr (Or.inr (Or.inl ⟨rfl, Or.inr ⟨mlt, rfl⟩⟩)))) hZ (hw _ (List.mem_of_getElem? (i := 17) rfl)) (hw _ (List.mem_of_getElem? (i := 6) rfl)) (by decide) (by decide)) q14_a q14_c (g := (mkF m 30 #[.val (.int i0), .val (.int i1), .val (.int i2), .val (.ref ol), .val (.int n), .val (.int m2), .unset] [(.int m2), (.ref ol), (.int (1 : Int32))])) rfl (by rw [hml]; rfl) (Steps.refl _) (argsL := [(.int m2)]) (rest := [(.int (1 : Int32))]) (lenOf pd__28I_29Z rfl) rfl (by show 2 * 0 + _ ≤ _; exact Nat.le_of_eq rfl) (hb hby at_30) (fun _ _ => ⟨rfl, e13_, (by decide : 0 + 0 ≤ _), (by decide : 0 + 0 ≤ _)⟩)
    dsimp only [Pt.U, Pt.locs, Pt.cells, Pt.slots] at X14_ l14_ y14_ z14_ st14_ hQ14_
    subst l14_ y14_ z14_
    obtain ⟨rfl, N14_q, e14_⟩ := hQ14_
    have N14_ := Fr.app N13_ N14_q
    refine Runs.tr st14_ ?_
    replace X14_ := wider X14_ (c' := 0) (s' := 0) (by decide) (by decide)
    show Runs p.tables e below _ (T14_.setTop (mkF m 33 #[.val (.int i0), .val (.int i1), .val (.int i2), .val (.ref ol), .val (.int n), .val (.int m2), .unset] [(.int (0 : Int32)), (.int (1 : Int32))]))
    refine Runs.st (fun t' k' => XS.icmpYes X14_.here hx rfl (pc0 := 33) (pc' := 40) rfl (hb hby at_33) rfl (feq (by decide)).2 (by decide) (by decide) k') ?_
    show Runs p.tables e below _ (T14_.setTop (mkF m 40 #[.val (.int i0), .val (.int i1), .val (.int i2), .val (.ref ol), .val (.int n), .val (.int m2), .unset] []))
    refine Runs.st (fun t' k' => XS.iconst X14_.here hx rfl (hb hby at_40) k') ?_
    show Runs p.tables e below _ (T14_.setTop (mkF m 41 #[.val (.int i0), .val (.int i1), .val (.int i2), .val (.ref ol), .val (.int n), .val (.int m2), .unset] [(.int (0 : Int32))]))
    refine Runs.st (fun t' k' => XS.istore X14_.here hx rfl (hb hby at_41) rfl (l' := #[.val (.int i0), .val (.int i1), .val (.int i2), .val (.ref ol), .val (.int n), .val (.int m2), .val (.int (0 : Int32))]) rfl k') ?_
    show Runs p.tables e below _ (T14_.setTop (mkF m 43 #[.val (.int i0), .val (.int i1), .val (.int i2), .val (.ref ol), .val (.int n), .val (.int m2), .val (.int (0 : Int32))] []))
    refine Runs.st (fun t' k' => XS.aloadN X14_.here hx rfl (hb hby at_43) rfl rfl k') ?_
    show Runs p.tables e below _ (T14_.setTop (mkF m 44 #[.val (.int i0), .val (.int i1), .val (.int i2), .val (.ref ol), .val (.int n), .val (.int m2), .val (.int (0 : Int32))] [(.ref ol)]))
    obtain ⟨cq15_, kq15_, q15_a, q15_b, q15_c⟩ := isOf hZ e14_ E2
    obtain ⟨_, _, ⟨T15_, L15_, k15_, n15_⟩, -, X15_, ⟨Lc15_, hQ15_, l15_, y15_, z15_⟩, st15_⟩ := X14_.virtualBack hx (y := (⟨"com/example/attribute_to_audience/attributetoaudience/model/Operator", "isEquality", "()Z"⟩ : MethodName)) (z := (⟨"com/example/attribute_to_audience/attributetoaudience/model/Operator", "isEquality", "()Z"⟩ : MethodName)) hown (mvT hZ (hw _ (List.mem_of_getElem? (i := 27) rfl))) (mvT hZ (hw _ (List.mem_of_getElem? (i := 28) rfl))) (notFace_of_selects (args := #[]) (mvT hZ (hw _ (List.mem_of_getElem? (i := 30) rfl)))) (mvT hZ (hw _ (List.mem_of_getElem? (i := 30) rfl))) (mvT hZ (hw _ (List.mem_of_getElem? (i := 29) rfl))) (by decide) (backOf (W := 0) (rmEq l Z a0 hw [] ol oe one (0 : Int32) h0 n0 sz S0 S1 (Or.inr ⟨⟨neq O2 O0 (by decide), neq O2 O1 (by decide)⟩, rfl⟩)) hZ (hw _ (List.mem_of_getElem? (i := 31) rfl)) (hw _ (List.mem_of_getElem? (i := 6) rfl)) (by decide) (by decide)) q15_a q15_c (g := (mkF m 44 #[.val (.int i0), .val (.int i1), .val (.int i2), .val (.ref ol), .val (.int n), .val (.int m2), .val (.int (0 : Int32))] [(.ref ol)])) rfl (by rw [hml]; rfl) (Steps.refl _) (argsL := []) (rest := []) (lenOf pd__28_29Z rfl) rfl (by show 2 * 0 + _ ≤ _; exact Nat.le_of_eq rfl) (hb hby at_44) (fun _ _ => ⟨rfl, e14_, (by decide : 0 + 0 ≤ _), (by decide : 0 + 0 ≤ _)⟩)
    dsimp only [Pt.U, Pt.locs, Pt.cells, Pt.slots] at X15_ l15_ y15_ z15_ st15_ hQ15_
    subst l15_ y15_ z15_
    obtain ⟨rfl, N15_q, e15_⟩ := hQ15_
    have N15_ := Fr.app N14_ N15_q
    refine Runs.tr st15_ ?_
    replace X15_ := wider X15_ (c' := 0) (s' := 0) (by decide) (by decide)
    show Runs p.tables e below _ (T15_.setTop (mkF m 47 #[.val (.int i0), .val (.int i1), .val (.int i2), .val (.ref ol), .val (.int n), .val (.int m2), .val (.int (0 : Int32))] [(.int (0 : Int32))]))
    refine Runs.st (fun t' k' => XS.iload X15_.here hx rfl (hb hby at_47) rfl k') ?_
    show Runs p.tables e below _ (T15_.setTop (mkF m 49 #[.val (.int i0), .val (.int i1), .val (.int i2), .val (.ref ol), .val (.int n), .val (.int m2), .val (.int (0 : Int32))] [(.int (0 : Int32)), (.int (0 : Int32))]))
    refine Runs.st (fun t' k' => XS.icmpNo X15_.here hx rfl (hb hby at_49) rfl (teq rfl).2 k') ?_
    show Runs p.tables e below _ (T15_.setTop (mkF m 52 #[.val (.int i0), .val (.int i1), .val (.int i2), .val (.ref ol), .val (.int n), .val (.int m2), .val (.int (0 : Int32))] []))
    refine Runs.st (fun t' k' => XS.iconst X15_.here hx rfl (hb hby at_52) k') ?_
    show Runs p.tables e below _ (T15_.setTop (mkF m 53 #[.val (.int i0), .val (.int i1), .val (.int i2), .val (.ref ol), .val (.int n), .val (.int m2), .val (.int (0 : Int32))] [(.int (1 : Int32))]))
    refine Runs.st (fun t' k' => XS.goto X15_.here hx rfl (pc0 := 53) (pc' := 57) rfl (hb hby at_53) (by decide) (by decide) k') ?_
    show Runs p.tables e below _ (T15_.setTop (mkF m 57 #[.val (.int i0), .val (.int i1), .val (.int i2), .val (.ref ol), .val (.int n), .val (.int m2), .val (.int (0 : Int32))] [(.int (1 : Int32))]))
    refine Runs.ret X15_ hlk (v := (some (.int (1 : Int32)))) (fun h => by rw [hret] at h; cases h) (by decide) (by decide) ?_ (fun fs hr => retN X15_ hx (t := .boolean) hret (by simp) (hb hby at_57) hr)
    try rw [e15_]
    exact ⟨rfl, N15_⟩
  · skip
    refine Runs.st (fun t' k' => XS.iloadN X0.here hx rfl (hb hby at_0) rfl k') ?_
    show Runs p.tables e below _ (s₁.setTop (mkF m 1 #[.val (.int i0), .val (.int i1), .val (.int i2), .unset, .unset, .unset, .unset] [(.int i0)]))
    obtain ⟨_, _, ⟨T16_, L16_, k16_, n16_⟩, -, X16_, ⟨Lc16_, hQ16_, l16_, y16_, z16_⟩, st16_⟩ := Jvm.LawKit.callS X0 hx (y := (⟨"com/example/attribute_to_audience/attributetoaudience/model/OperatorIsEqualityPinLaw", "pick", "(I)Lcom/example/attribute_to_audience/attributetoaudience/model/Operator;"⟩ : MethodName)) hown (mvT hZ (hw _ (List.mem_of_getElem? (i := 0) rfl))) (mvT hZ (hw _ (List.mem_of_getElem? (i := 1) rfl))) (mvT hZ (hw _ (List.mem_of_getElem? (i := 2) rfl))) (mvT hZ (hw _ (List.mem_of_getElem? (i := 3) rfl))) (by decide) (backOf (W := 0) (rmPick l Z a0 hw [] i0 ole oe one ol ole og oge h0 n0 sz S0 S1 S2 S3 S4 S5 (Or.inr (Or.inr (Or.inr (Or.inl ⟨hj, rfl⟩))))) hZ (hw _ (List.mem_of_getElem? (i := 3) rfl)) (hw _ (List.mem_of_getElem? (i := 2) rfl)) (by decide) (by decide)) (g := (mkF m 1 #[.val (.int i0), .val (.int i1), .val (.int i2), .unset, .unset, .unset, .unset] [(.int i0)])) rfl (by rw [hml]; rfl) (argsL := [(.int i0)]) (rest := []) (lenOf pd__28I_29Lcom_2fexample_2fattribute_to_audience_2fattributetoaudience_2fmodel_2fOperator_3b rfl) rfl (by show 2 * 0 + _ ≤ _; exact Nat.le_of_eq rfl) (hb hby at_1) (fun _ _ => ⟨rfl, e0, (by decide : 0 + 0 ≤ _), (by decide : 0 + 0 ≤ _)⟩)
    dsimp only [Pt.U, Pt.locs, Pt.cells, Pt.slots] at X16_ l16_ y16_ z16_ st16_ hQ16_
    subst l16_ y16_ z16_
    obtain ⟨rfl, N16_q, e16_⟩ := hQ16_
    have N16_ := Fr.app N0 N16_q
    refine Runs.st (st16_) ?_
    replace X16_ := wider X16_ (c' := 0) (s' := 0) (by decide) (by decide)
    show Runs p.tables e below _ (T16_.setTop (mkF m 4 #[.val (.int i0), .val (.int i1), .val (.int i2), .unset, .unset, .unset, .unset] [(.ref ole)]))
    refine Runs.st (fun t' k' => XS.astoreN X16_.here hx rfl (hb hby at_4) rfl rfl (l' := #[.val (.int i0), .val (.int i1), .val (.int i2), .val (.ref ole), .unset, .unset, .unset]) rfl k') ?_
    show Runs p.tables e below _ (T16_.setTop (mkF m 5 #[.val (.int i0), .val (.int i1), .val (.int i2), .val (.ref ole), .unset, .unset, .unset] []))
    refine Runs.st (fun t' k' => XS.iloadN X16_.here hx rfl (hb hby at_5) rfl k') ?_
    show Runs p.tables e below _ (T16_.setTop (mkF m 6 #[.val (.int i0), .val (.int i1), .val (.int i2), .val (.ref ole), .unset, .unset, .unset] [(.int i1)]))
    refine Runs.st (fun t' k' => X16_.ldcInt hx hown (mvT hZ (hw _ (List.mem_of_getElem? (i := 8) rfl))) (g := (mkF m 6 #[.val (.int i0), .val (.int i1), .val (.int i2), .val (.ref ole), .unset, .unset, .unset] [(.int i1)])) rfl (hb hby at_6) t' k') ?_
    show Runs p.tables e below _ (T16_.setTop (mkF m 8 #[.val (.int i0), .val (.int i1), .val (.int i2), .val (.ref ole), .unset, .unset, .unset] [(.int (-2147483648 : Int32)), (.int i1)]))
    refine Runs.st (fun t' k' => XS.ior X16_.here hx rfl (hb hby at_8) rfl k') ?_
    show Runs p.tables e below _ (T16_.setTop (mkF m 9 #[.val (.int i0), .val (.int i1), .val (.int i2), .val (.ref ole), .unset, .unset, .unset] [(.int (i1 ||| (-2147483648 : Int32)))]))
    rw [← hn]
    refine Runs.st (fun t' k' => XS.istore X16_.here hx rfl (hb hby at_9) rfl (l' := #[.val (.int i0), .val (.int i1), .val (.int i2), .val (.ref ole), .val (.int n), .unset, .unset]) rfl k') ?_
    show Runs p.tables e below _ (T16_.setTop (mkF m 11 #[.val (.int i0), .val (.int i1), .val (.int i2), .val (.ref ole), .val (.int n), .unset, .unset] []))
    refine Runs.st (fun t' k' => XS.iconst X16_.here hx rfl (hb hby at_11) k') ?_
    show Runs p.tables e below _ (T16_.setTop (mkF m 12 #[.val (.int i0), .val (.int i1), .val (.int i2), .val (.ref ole), .val (.int n), .unset, .unset] [(.int (1 : Int32))]))
    refine Runs.st (fun t' k' => XS.iloadN X16_.here hx rfl (hb hby at_12) rfl k') ?_
    show Runs p.tables e below _ (T16_.setTop (mkF m 13 #[.val (.int i0), .val (.int i1), .val (.int i2), .val (.ref ole), .val (.int n), .unset, .unset] [(.int i2), (.int (1 : Int32))]))
    refine Runs.st (fun t' k' => X16_.ldcInt hx hown (mvT hZ (hw _ (List.mem_of_getElem? (i := 4) rfl))) (g := (mkF m 13 #[.val (.int i0), .val (.int i1), .val (.int i2), .val (.ref ole), .val (.int n), .unset, .unset] [(.int i2), (.int (1 : Int32))])) rfl (hb hby at_13) t' k') ?_
    show Runs p.tables e below _ (T16_.setTop (mkF m 15 #[.val (.int i0), .val (.int i1), .val (.int i2), .val (.ref ole), .val (.int n), .unset, .unset] [(.int (2147483647 : Int32)), (.int i2), (.int (1 : Int32))]))
    refine Runs.st (fun t' k' => XS.iand X16_.here hx rfl (hb hby at_15) rfl k') ?_
    show Runs p.tables e below _ (T16_.setTop (mkF m 16 #[.val (.int i0), .val (.int i1), .val (.int i2), .val (.ref ole), .val (.int n), .unset, .unset] [(.int (i2 &&& (2147483647 : Int32))), (.int (1 : Int32))]))
    obtain ⟨_, _, ⟨T17_, L17_, k17_, n17_⟩, -, X17_, ⟨Lc17_, hQ17_, l17_, y17_, z17_⟩, st17_⟩ := Jvm.LawKit.callS X16_ hx (y := (⟨"java/lang/Math", "max", "(II)I"⟩ : MethodName)) hown (mvT hZ (hw _ (List.mem_of_getElem? (i := 9) rfl))) (mvT hZ (hw _ (List.mem_of_getElem? (i := 10) rfl))) (mvT hZ (hw _ (List.mem_of_getElem? (i := 11) rfl))) (mvT hZ (hw _ (List.mem_of_getElem? (i := 12) rfl))) (by decide) (backOf (W := 0) (rmMax l Z a0 hw [] (1 : Int32) (i2 &&& (2147483647 : Int32)) m2 h0 n0 sz hm2) hZ (hw _ (List.mem_of_getElem? (i := 12) rfl)) (hw _ (List.mem_of_getElem? (i := 11) rfl)) (by decide) (by decide)) (g := (mkF m 16 #[.val (.int i0), .val (.int i1), .val (.int i2), .val (.ref ole), .val (.int n), .unset, .unset] [(.int (i2 &&& (2147483647 : Int32))), (.int (1 : Int32))])) rfl (by rw [hml]; rfl) (argsL := [(.int (1 : Int32)), (.int (i2 &&& (2147483647 : Int32)))]) (rest := []) (lenOf pd__28II_29I rfl) rfl (by show 2 * 0 + _ ≤ _; exact Nat.le_of_eq rfl) (hb hby at_16) (fun _ _ => ⟨rfl, e16_, (by decide : 0 + 0 ≤ _), (by decide : 0 + 0 ≤ _)⟩)
    dsimp only [Pt.U, Pt.locs, Pt.cells, Pt.slots] at X17_ l17_ y17_ z17_ st17_ hQ17_
    subst l17_ y17_ z17_
    obtain ⟨rfl, N17_q, e17_⟩ := hQ17_
    have N17_ := Fr.app N16_ N17_q
    refine Runs.st (st17_) ?_
    replace X17_ := wider X17_ (c' := 0) (s' := 0) (by decide) (by decide)
    show Runs p.tables e below _ (T17_.setTop (mkF m 19 #[.val (.int i0), .val (.int i1), .val (.int i2), .val (.ref ole), .val (.int n), .unset, .unset] [(.int m2)]))
    refine Runs.st (fun t' k' => XS.istore X17_.here hx rfl (hb hby at_19) rfl (l' := #[.val (.int i0), .val (.int i1), .val (.int i2), .val (.ref ole), .val (.int n), .val (.int m2), .unset]) rfl k') ?_
    show Runs p.tables e below _ (T17_.setTop (mkF m 21 #[.val (.int i0), .val (.int i1), .val (.int i2), .val (.ref ole), .val (.int n), .val (.int m2), .unset] []))
    refine Runs.st (fun t' k' => XS.aloadN X17_.here hx rfl (hb hby at_21) rfl rfl k') ?_
    show Runs p.tables e below _ (T17_.setTop (mkF m 22 #[.val (.int i0), .val (.int i1), .val (.int i2), .val (.ref ole), .val (.int n), .val (.int m2), .unset] [(.ref ole)]))
    refine Runs.st (fun t' k' => XS.iload X17_.here hx rfl (hb hby at_22) rfl k') ?_
    show Runs p.tables e below _ (T17_.setTop (mkF m 24 #[.val (.int i0), .val (.int i1), .val (.int i2), .val (.ref ole), .val (.int n), .val (.int m2), .unset] [(.int n), (.ref ole)]))
    obtain ⟨cq18_, kq18_, q18_a, q18_b, q18_c⟩ := isOf hZ e17_ E3
    obtain ⟨_, _, ⟨T18_, L18_, k18_, n18_⟩, -, X18_, ⟨Lc18_, hQ18_, l18_, y18_, z18_⟩, st18_⟩ := X17_.virtualBack hx (y := (⟨"com/example/attribute_to_audience/attributetoaudience/model/Operator", "holds", "(I)Z"⟩ : MethodName)) (z := (⟨"com/example/attribute_to_audience/attributetoaudience/model/Operator", "holds", "(I)Z"⟩ : MethodName)) hown (mvT hZ (hw _ (List.mem_of_getElem? (i := 13) rfl))) (mvT hZ (hw _ (List.mem_of_getElem? (i := 14) rfl))) (notFace_of_selects (args := #[]) (mvT hZ (hw _ (List.mem_of_getElem? (i := 16) rfl)))) (mvT hZ (hw _ (List.mem_of_getElem? (i := 16) rfl))) (mvT hZ (hw _ (List.mem_of_getElem? (i := 15) rfl))) (by decide) (backOf (W := 0) (rmHolds l Z a0 hw [] ole n (3 : Int32) (1 : Int32) h0 n0 sz E3 O3 (Or.inr (Or.inr (Or.inr (Or.inl ⟨rfl, Or.inr ⟨ngt, rfl⟩⟩))))) hZ (hw _ (List.mem_of_getElem? (i := 17) rfl)) (hw _ (List.mem_of_getElem? (i := 6) rfl)) (by decide) (by decide)) q18_a q18_c (g := (mkF m 24 #[.val (.int i0), .val (.int i1), .val (.int i2), .val (.ref ole), .val (.int n), .val (.int m2), .unset] [(.int n), (.ref ole)])) rfl (by rw [hml]; rfl) (Steps.refl _) (argsL := [(.int n)]) (rest := []) (lenOf pd__28I_29Z rfl) rfl (by show 2 * 0 + _ ≤ _; exact Nat.le_of_eq rfl) (hb hby at_24) (fun _ _ => ⟨rfl, e17_, (by decide : 0 + 0 ≤ _), (by decide : 0 + 0 ≤ _)⟩)
    dsimp only [Pt.U, Pt.locs, Pt.cells, Pt.slots] at X18_ l18_ y18_ z18_ st18_ hQ18_
    subst l18_ y18_ z18_
    obtain ⟨rfl, N18_q, e18_⟩ := hQ18_
    have N18_ := Fr.app N17_ N18_q
    refine Runs.tr st18_ ?_
    replace X18_ := wider X18_ (c' := 0) (s' := 0) (by decide) (by decide)
    show Runs p.tables e below _ (T18_.setTop (mkF m 27 #[.val (.int i0), .val (.int i1), .val (.int i2), .val (.ref ole), .val (.int n), .val (.int m2), .unset] [(.int (1 : Int32))]))
    refine Runs.st (fun t' k' => XS.aloadN X18_.here hx rfl (hb hby at_27) rfl rfl k') ?_
    show Runs p.tables e below _ (T18_.setTop (mkF m 28 #[.val (.int i0), .val (.int i1), .val (.int i2), .val (.ref ole), .val (.int n), .val (.int m2), .unset] [(.ref ole), (.int (1 : Int32))]))
    refine Runs.st (fun t' k' => XS.iload X18_.here hx rfl (hb hby at_28) rfl k') ?_
    show Runs p.tables e below _ (T18_.setTop (mkF m 30 #[.val (.int i0), .val (.int i1), .val (.int i2), .val (.ref ole), .val (.int n), .val (.int m2), .unset] [(.int m2), (.ref ole), (.int (1 : Int32))]))
    obtain ⟨cq19_, kq19_, q19_a, q19_b, q19_c⟩ := isOf hZ e18_ E3
    obtain ⟨_, _, ⟨T19_, L19_, k19_, n19_⟩, -, X19_, ⟨Lc19_, hQ19_, l19_, y19_, z19_⟩, st19_⟩ := X18_.virtualBack hx (y := (⟨"com/example/attribute_to_audience/attributetoaudience/model/Operator", "holds", "(I)Z"⟩ : MethodName)) (z := (⟨"com/example/attribute_to_audience/attributetoaudience/model/Operator", "holds", "(I)Z"⟩ : MethodName)) hown (mvT hZ (hw _ (List.mem_of_getElem? (i := 13) rfl))) (mvT hZ (hw _ (List.mem_of_getElem? (i := 14) rfl))) (notFace_of_selects (args := #[]) (mvT hZ (hw _ (List.mem_of_getElem? (i := 16) rfl)))) (mvT hZ (hw _ (List.mem_of_getElem? (i := 16) rfl))) (mvT hZ (hw _ (List.mem_of_getElem? (i := 15) rfl))) (by decide) (backOf (W := 1) (rmHolds l Z a0 hw [] ole m2 (3 : Int32) (0 : Int32) h0 n0 sz E3 O3 (Or.inr (Or.inr (Or.inr (Or.inl ⟨rfl, Or.inl ⟨mgt, rfl⟩⟩))))) hZ (hw _ (List.mem_of_getElem? (i := 17) rfl)) (hw _ (List.mem_of_getElem? (i := 6) rfl)) (by decide) (by decide)) q19_a q19_c (g := (mkF m 30 #[.val (.int i0), .val (.int i1), .val (.int i2), .val (.ref ole), .val (.int n), .val (.int m2), .unset] [(.int m2), (.ref ole), (.int (1 : Int32))])) rfl (by rw [hml]; rfl) (Steps.refl _) (argsL := [(.int m2)]) (rest := [(.int (1 : Int32))]) (lenOf pd__28I_29Z rfl) rfl (by show 2 * 0 + _ ≤ _; exact Nat.le_of_eq rfl) (hb hby at_30) (fun _ _ => ⟨rfl, e18_, (by decide : 0 + 0 ≤ _), (by decide : 0 + 0 ≤ _)⟩)
    dsimp only [Pt.U, Pt.locs, Pt.cells, Pt.slots] at X19_ l19_ y19_ z19_ st19_ hQ19_
    subst l19_ y19_ z19_
    obtain ⟨rfl, N19_q, e19_⟩ := hQ19_
    have N19_ := Fr.app N18_ N19_q
    refine Runs.tr st19_ ?_
    replace X19_ := wider X19_ (c' := 0) (s' := 0) (by decide) (by decide)
    show Runs p.tables e below _ (T19_.setTop (mkF m 33 #[.val (.int i0), .val (.int i1), .val (.int i2), .val (.ref ole), .val (.int n), .val (.int m2), .unset] [(.int (0 : Int32)), (.int (1 : Int32))]))
    refine Runs.st (fun t' k' => XS.icmpYes X19_.here hx rfl (pc0 := 33) (pc' := 40) rfl (hb hby at_33) rfl (feq (by decide)).2 (by decide) (by decide) k') ?_
    show Runs p.tables e below _ (T19_.setTop (mkF m 40 #[.val (.int i0), .val (.int i1), .val (.int i2), .val (.ref ole), .val (.int n), .val (.int m2), .unset] []))
    refine Runs.st (fun t' k' => XS.iconst X19_.here hx rfl (hb hby at_40) k') ?_
    show Runs p.tables e below _ (T19_.setTop (mkF m 41 #[.val (.int i0), .val (.int i1), .val (.int i2), .val (.ref ole), .val (.int n), .val (.int m2), .unset] [(.int (0 : Int32))]))
    refine Runs.st (fun t' k' => XS.istore X19_.here hx rfl (hb hby at_41) rfl (l' := #[.val (.int i0), .val (.int i1), .val (.int i2), .val (.ref ole), .val (.int n), .val (.int m2), .val (.int (0 : Int32))]) rfl k') ?_
    show Runs p.tables e below _ (T19_.setTop (mkF m 43 #[.val (.int i0), .val (.int i1), .val (.int i2), .val (.ref ole), .val (.int n), .val (.int m2), .val (.int (0 : Int32))] []))
    refine Runs.st (fun t' k' => XS.aloadN X19_.here hx rfl (hb hby at_43) rfl rfl k') ?_
    show Runs p.tables e below _ (T19_.setTop (mkF m 44 #[.val (.int i0), .val (.int i1), .val (.int i2), .val (.ref ole), .val (.int n), .val (.int m2), .val (.int (0 : Int32))] [(.ref ole)]))
    obtain ⟨cq20_, kq20_, q20_a, q20_b, q20_c⟩ := isOf hZ e19_ E3
    obtain ⟨_, _, ⟨T20_, L20_, k20_, n20_⟩, -, X20_, ⟨Lc20_, hQ20_, l20_, y20_, z20_⟩, st20_⟩ := X19_.virtualBack hx (y := (⟨"com/example/attribute_to_audience/attributetoaudience/model/Operator", "isEquality", "()Z"⟩ : MethodName)) (z := (⟨"com/example/attribute_to_audience/attributetoaudience/model/Operator", "isEquality", "()Z"⟩ : MethodName)) hown (mvT hZ (hw _ (List.mem_of_getElem? (i := 27) rfl))) (mvT hZ (hw _ (List.mem_of_getElem? (i := 28) rfl))) (notFace_of_selects (args := #[]) (mvT hZ (hw _ (List.mem_of_getElem? (i := 30) rfl)))) (mvT hZ (hw _ (List.mem_of_getElem? (i := 30) rfl))) (mvT hZ (hw _ (List.mem_of_getElem? (i := 29) rfl))) (by decide) (backOf (W := 0) (rmEq l Z a0 hw [] ole oe one (0 : Int32) h0 n0 sz S0 S1 (Or.inr ⟨⟨neq O3 O0 (by decide), neq O3 O1 (by decide)⟩, rfl⟩)) hZ (hw _ (List.mem_of_getElem? (i := 31) rfl)) (hw _ (List.mem_of_getElem? (i := 6) rfl)) (by decide) (by decide)) q20_a q20_c (g := (mkF m 44 #[.val (.int i0), .val (.int i1), .val (.int i2), .val (.ref ole), .val (.int n), .val (.int m2), .val (.int (0 : Int32))] [(.ref ole)])) rfl (by rw [hml]; rfl) (Steps.refl _) (argsL := []) (rest := []) (lenOf pd__28_29Z rfl) rfl (by show 2 * 0 + _ ≤ _; exact Nat.le_of_eq rfl) (hb hby at_44) (fun _ _ => ⟨rfl, e19_, (by decide : 0 + 0 ≤ _), (by decide : 0 + 0 ≤ _)⟩)
    dsimp only [Pt.U, Pt.locs, Pt.cells, Pt.slots] at X20_ l20_ y20_ z20_ st20_ hQ20_
    subst l20_ y20_ z20_
    obtain ⟨rfl, N20_q, e20_⟩ := hQ20_
    have N20_ := Fr.app N19_ N20_q
    refine Runs.tr st20_ ?_
    replace X20_ := wider X20_ (c' := 0) (s' := 0) (by decide) (by decide)
    show Runs p.tables e below _ (T20_.setTop (mkF m 47 #[.val (.int i0), .val (.int i1), .val (.int i2), .val (.ref ole), .val (.int n), .val (.int m2), .val (.int (0 : Int32))] [(.int (0 : Int32))]))
    refine Runs.st (fun t' k' => XS.iload X20_.here hx rfl (hb hby at_47) rfl k') ?_
    show Runs p.tables e below _ (T20_.setTop (mkF m 49 #[.val (.int i0), .val (.int i1), .val (.int i2), .val (.ref ole), .val (.int n), .val (.int m2), .val (.int (0 : Int32))] [(.int (0 : Int32)), (.int (0 : Int32))]))
    refine Runs.st (fun t' k' => XS.icmpNo X20_.here hx rfl (hb hby at_49) rfl (teq rfl).2 k') ?_
    show Runs p.tables e below _ (T20_.setTop (mkF m 52 #[.val (.int i0), .val (.int i1), .val (.int i2), .val (.ref ole), .val (.int n), .val (.int m2), .val (.int (0 : Int32))] []))
    refine Runs.st (fun t' k' => XS.iconst X20_.here hx rfl (hb hby at_52) k') ?_
    show Runs p.tables e below _ (T20_.setTop (mkF m 53 #[.val (.int i0), .val (.int i1), .val (.int i2), .val (.ref ole), .val (.int n), .val (.int m2), .val (.int (0 : Int32))] [(.int (1 : Int32))]))
    refine Runs.st (fun t' k' => XS.goto X20_.here hx rfl (pc0 := 53) (pc' := 57) rfl (hb hby at_53) (by decide) (by decide) k') ?_
    show Runs p.tables e below _ (T20_.setTop (mkF m 57 #[.val (.int i0), .val (.int i1), .val (.int i2), .val (.ref ole), .val (.int n), .val (.int m2), .val (.int (0 : Int32))] [(.int (1 : Int32))]))
    refine Runs.ret X20_ hlk (v := (some (.int (1 : Int32)))) (fun h => by rw [hret] at h; cases h) (by decide) (by decide) ?_ (fun fs hr => retN X20_ hx (t := .boolean) hret (by simp) (hb hby at_57) hr)
    try rw [e20_]
    exact ⟨rfl, N20_⟩
  · skip
    refine Runs.st (fun t' k' => XS.iloadN X0.here hx rfl (hb hby at_0) rfl k') ?_
    show Runs p.tables e below _ (s₁.setTop (mkF m 1 #[.val (.int i0), .val (.int i1), .val (.int i2), .unset, .unset, .unset, .unset] [(.int i0)]))
    obtain ⟨_, _, ⟨T21_, L21_, k21_, n21_⟩, -, X21_, ⟨Lc21_, hQ21_, l21_, y21_, z21_⟩, st21_⟩ := Jvm.LawKit.callS X0 hx (y := (⟨"com/example/attribute_to_audience/attributetoaudience/model/OperatorIsEqualityPinLaw", "pick", "(I)Lcom/example/attribute_to_audience/attributetoaudience/model/Operator;"⟩ : MethodName)) hown (mvT hZ (hw _ (List.mem_of_getElem? (i := 0) rfl))) (mvT hZ (hw _ (List.mem_of_getElem? (i := 1) rfl))) (mvT hZ (hw _ (List.mem_of_getElem? (i := 2) rfl))) (mvT hZ (hw _ (List.mem_of_getElem? (i := 3) rfl))) (by decide) (backOf (W := 0) (rmPick l Z a0 hw [] i0 og oe one ol ole og oge h0 n0 sz S0 S1 S2 S3 S4 S5 (Or.inr (Or.inr (Or.inr (Or.inr (Or.inl ⟨hj, rfl⟩)))))) hZ (hw _ (List.mem_of_getElem? (i := 3) rfl)) (hw _ (List.mem_of_getElem? (i := 2) rfl)) (by decide) (by decide)) (g := (mkF m 1 #[.val (.int i0), .val (.int i1), .val (.int i2), .unset, .unset, .unset, .unset] [(.int i0)])) rfl (by rw [hml]; rfl) (argsL := [(.int i0)]) (rest := []) (lenOf pd__28I_29Lcom_2fexample_2fattribute_to_audience_2fattributetoaudience_2fmodel_2fOperator_3b rfl) rfl (by show 2 * 0 + _ ≤ _; exact Nat.le_of_eq rfl) (hb hby at_1) (fun _ _ => ⟨rfl, e0, (by decide : 0 + 0 ≤ _), (by decide : 0 + 0 ≤ _)⟩)
    dsimp only [Pt.U, Pt.locs, Pt.cells, Pt.slots] at X21_ l21_ y21_ z21_ st21_ hQ21_
    subst l21_ y21_ z21_
    obtain ⟨rfl, N21_q, e21_⟩ := hQ21_
    have N21_ := Fr.app N0 N21_q
    refine Runs.st (st21_) ?_
    replace X21_ := wider X21_ (c' := 0) (s' := 0) (by decide) (by decide)
    show Runs p.tables e below _ (T21_.setTop (mkF m 4 #[.val (.int i0), .val (.int i1), .val (.int i2), .unset, .unset, .unset, .unset] [(.ref og)]))
    refine Runs.st (fun t' k' => XS.astoreN X21_.here hx rfl (hb hby at_4) rfl rfl (l' := #[.val (.int i0), .val (.int i1), .val (.int i2), .val (.ref og), .unset, .unset, .unset]) rfl k') ?_
    show Runs p.tables e below _ (T21_.setTop (mkF m 5 #[.val (.int i0), .val (.int i1), .val (.int i2), .val (.ref og), .unset, .unset, .unset] []))
    refine Runs.st (fun t' k' => XS.iloadN X21_.here hx rfl (hb hby at_5) rfl k') ?_
    show Runs p.tables e below _ (T21_.setTop (mkF m 6 #[.val (.int i0), .val (.int i1), .val (.int i2), .val (.ref og), .unset, .unset, .unset] [(.int i1)]))
    refine Runs.st (fun t' k' => X21_.ldcInt hx hown (mvT hZ (hw _ (List.mem_of_getElem? (i := 8) rfl))) (g := (mkF m 6 #[.val (.int i0), .val (.int i1), .val (.int i2), .val (.ref og), .unset, .unset, .unset] [(.int i1)])) rfl (hb hby at_6) t' k') ?_
    show Runs p.tables e below _ (T21_.setTop (mkF m 8 #[.val (.int i0), .val (.int i1), .val (.int i2), .val (.ref og), .unset, .unset, .unset] [(.int (-2147483648 : Int32)), (.int i1)]))
    refine Runs.st (fun t' k' => XS.ior X21_.here hx rfl (hb hby at_8) rfl k') ?_
    show Runs p.tables e below _ (T21_.setTop (mkF m 9 #[.val (.int i0), .val (.int i1), .val (.int i2), .val (.ref og), .unset, .unset, .unset] [(.int (i1 ||| (-2147483648 : Int32)))]))
    rw [← hn]
    refine Runs.st (fun t' k' => XS.istore X21_.here hx rfl (hb hby at_9) rfl (l' := #[.val (.int i0), .val (.int i1), .val (.int i2), .val (.ref og), .val (.int n), .unset, .unset]) rfl k') ?_
    show Runs p.tables e below _ (T21_.setTop (mkF m 11 #[.val (.int i0), .val (.int i1), .val (.int i2), .val (.ref og), .val (.int n), .unset, .unset] []))
    refine Runs.st (fun t' k' => XS.iconst X21_.here hx rfl (hb hby at_11) k') ?_
    show Runs p.tables e below _ (T21_.setTop (mkF m 12 #[.val (.int i0), .val (.int i1), .val (.int i2), .val (.ref og), .val (.int n), .unset, .unset] [(.int (1 : Int32))]))
    refine Runs.st (fun t' k' => XS.iloadN X21_.here hx rfl (hb hby at_12) rfl k') ?_
    show Runs p.tables e below _ (T21_.setTop (mkF m 13 #[.val (.int i0), .val (.int i1), .val (.int i2), .val (.ref og), .val (.int n), .unset, .unset] [(.int i2), (.int (1 : Int32))]))
    refine Runs.st (fun t' k' => X21_.ldcInt hx hown (mvT hZ (hw _ (List.mem_of_getElem? (i := 4) rfl))) (g := (mkF m 13 #[.val (.int i0), .val (.int i1), .val (.int i2), .val (.ref og), .val (.int n), .unset, .unset] [(.int i2), (.int (1 : Int32))])) rfl (hb hby at_13) t' k') ?_
    show Runs p.tables e below _ (T21_.setTop (mkF m 15 #[.val (.int i0), .val (.int i1), .val (.int i2), .val (.ref og), .val (.int n), .unset, .unset] [(.int (2147483647 : Int32)), (.int i2), (.int (1 : Int32))]))
    refine Runs.st (fun t' k' => XS.iand X21_.here hx rfl (hb hby at_15) rfl k') ?_
    show Runs p.tables e below _ (T21_.setTop (mkF m 16 #[.val (.int i0), .val (.int i1), .val (.int i2), .val (.ref og), .val (.int n), .unset, .unset] [(.int (i2 &&& (2147483647 : Int32))), (.int (1 : Int32))]))
    obtain ⟨_, _, ⟨T22_, L22_, k22_, n22_⟩, -, X22_, ⟨Lc22_, hQ22_, l22_, y22_, z22_⟩, st22_⟩ := Jvm.LawKit.callS X21_ hx (y := (⟨"java/lang/Math", "max", "(II)I"⟩ : MethodName)) hown (mvT hZ (hw _ (List.mem_of_getElem? (i := 9) rfl))) (mvT hZ (hw _ (List.mem_of_getElem? (i := 10) rfl))) (mvT hZ (hw _ (List.mem_of_getElem? (i := 11) rfl))) (mvT hZ (hw _ (List.mem_of_getElem? (i := 12) rfl))) (by decide) (backOf (W := 0) (rmMax l Z a0 hw [] (1 : Int32) (i2 &&& (2147483647 : Int32)) m2 h0 n0 sz hm2) hZ (hw _ (List.mem_of_getElem? (i := 12) rfl)) (hw _ (List.mem_of_getElem? (i := 11) rfl)) (by decide) (by decide)) (g := (mkF m 16 #[.val (.int i0), .val (.int i1), .val (.int i2), .val (.ref og), .val (.int n), .unset, .unset] [(.int (i2 &&& (2147483647 : Int32))), (.int (1 : Int32))])) rfl (by rw [hml]; rfl) (argsL := [(.int (1 : Int32)), (.int (i2 &&& (2147483647 : Int32)))]) (rest := []) (lenOf pd__28II_29I rfl) rfl (by show 2 * 0 + _ ≤ _; exact Nat.le_of_eq rfl) (hb hby at_16) (fun _ _ => ⟨rfl, e21_, (by decide : 0 + 0 ≤ _), (by decide : 0 + 0 ≤ _)⟩)
    dsimp only [Pt.U, Pt.locs, Pt.cells, Pt.slots] at X22_ l22_ y22_ z22_ st22_ hQ22_
    subst l22_ y22_ z22_
    obtain ⟨rfl, N22_q, e22_⟩ := hQ22_
    have N22_ := Fr.app N21_ N22_q
    refine Runs.st (st22_) ?_
    replace X22_ := wider X22_ (c' := 0) (s' := 0) (by decide) (by decide)
    show Runs p.tables e below _ (T22_.setTop (mkF m 19 #[.val (.int i0), .val (.int i1), .val (.int i2), .val (.ref og), .val (.int n), .unset, .unset] [(.int m2)]))
    refine Runs.st (fun t' k' => XS.istore X22_.here hx rfl (hb hby at_19) rfl (l' := #[.val (.int i0), .val (.int i1), .val (.int i2), .val (.ref og), .val (.int n), .val (.int m2), .unset]) rfl k') ?_
    show Runs p.tables e below _ (T22_.setTop (mkF m 21 #[.val (.int i0), .val (.int i1), .val (.int i2), .val (.ref og), .val (.int n), .val (.int m2), .unset] []))
    refine Runs.st (fun t' k' => XS.aloadN X22_.here hx rfl (hb hby at_21) rfl rfl k') ?_
    show Runs p.tables e below _ (T22_.setTop (mkF m 22 #[.val (.int i0), .val (.int i1), .val (.int i2), .val (.ref og), .val (.int n), .val (.int m2), .unset] [(.ref og)]))
    refine Runs.st (fun t' k' => XS.iload X22_.here hx rfl (hb hby at_22) rfl k') ?_
    show Runs p.tables e below _ (T22_.setTop (mkF m 24 #[.val (.int i0), .val (.int i1), .val (.int i2), .val (.ref og), .val (.int n), .val (.int m2), .unset] [(.int n), (.ref og)]))
    obtain ⟨cq23_, kq23_, q23_a, q23_b, q23_c⟩ := isOf hZ e22_ E4
    obtain ⟨_, _, ⟨T23_, L23_, k23_, n23_⟩, -, X23_, ⟨Lc23_, hQ23_, l23_, y23_, z23_⟩, st23_⟩ := X22_.virtualBack hx (y := (⟨"com/example/attribute_to_audience/attributetoaudience/model/Operator", "holds", "(I)Z"⟩ : MethodName)) (z := (⟨"com/example/attribute_to_audience/attributetoaudience/model/Operator", "holds", "(I)Z"⟩ : MethodName)) hown (mvT hZ (hw _ (List.mem_of_getElem? (i := 13) rfl))) (mvT hZ (hw _ (List.mem_of_getElem? (i := 14) rfl))) (notFace_of_selects (args := #[]) (mvT hZ (hw _ (List.mem_of_getElem? (i := 16) rfl)))) (mvT hZ (hw _ (List.mem_of_getElem? (i := 16) rfl))) (mvT hZ (hw _ (List.mem_of_getElem? (i := 15) rfl))) (by decide) (backOf (W := 0) (rmHolds l Z a0 hw [] og n (4 : Int32) (0 : Int32) h0 n0 sz E4 O4 (Or.inr (Or.inr (Or.inr (Or.inr (Or.inl ⟨rfl, Or.inr ⟨ngt, rfl⟩⟩)))))) hZ (hw _ (List.mem_of_getElem? (i := 17) rfl)) (hw _ (List.mem_of_getElem? (i := 6) rfl)) (by decide) (by decide)) q23_a q23_c (g := (mkF m 24 #[.val (.int i0), .val (.int i1), .val (.int i2), .val (.ref og), .val (.int n), .val (.int m2), .unset] [(.int n), (.ref og)])) rfl (by rw [hml]; rfl) (Steps.refl _) (argsL := [(.int n)]) (rest := []) (lenOf pd__28I_29Z rfl) rfl (by show 2 * 0 + _ ≤ _; exact Nat.le_of_eq rfl) (hb hby at_24) (fun _ _ => ⟨rfl, e22_, (by decide : 0 + 0 ≤ _), (by decide : 0 + 0 ≤ _)⟩)
    dsimp only [Pt.U, Pt.locs, Pt.cells, Pt.slots] at X23_ l23_ y23_ z23_ st23_ hQ23_
    subst l23_ y23_ z23_
    obtain ⟨rfl, N23_q, e23_⟩ := hQ23_
    have N23_ := Fr.app N22_ N23_q
    refine Runs.tr st23_ ?_
    replace X23_ := wider X23_ (c' := 0) (s' := 0) (by decide) (by decide)
    show Runs p.tables e below _ (T23_.setTop (mkF m 27 #[.val (.int i0), .val (.int i1), .val (.int i2), .val (.ref og), .val (.int n), .val (.int m2), .unset] [(.int (0 : Int32))]))
    refine Runs.st (fun t' k' => XS.aloadN X23_.here hx rfl (hb hby at_27) rfl rfl k') ?_
    show Runs p.tables e below _ (T23_.setTop (mkF m 28 #[.val (.int i0), .val (.int i1), .val (.int i2), .val (.ref og), .val (.int n), .val (.int m2), .unset] [(.ref og), (.int (0 : Int32))]))
    refine Runs.st (fun t' k' => XS.iload X23_.here hx rfl (hb hby at_28) rfl k') ?_
    show Runs p.tables e below _ (T23_.setTop (mkF m 30 #[.val (.int i0), .val (.int i1), .val (.int i2), .val (.ref og), .val (.int n), .val (.int m2), .unset] [(.int m2), (.ref og), (.int (0 : Int32))]))
    obtain ⟨cq24_, kq24_, q24_a, q24_b, q24_c⟩ := isOf hZ e23_ E4
    obtain ⟨_, _, ⟨T24_, L24_, k24_, n24_⟩, -, X24_, ⟨Lc24_, hQ24_, l24_, y24_, z24_⟩, st24_⟩ := X23_.virtualBack hx (y := (⟨"com/example/attribute_to_audience/attributetoaudience/model/Operator", "holds", "(I)Z"⟩ : MethodName)) (z := (⟨"com/example/attribute_to_audience/attributetoaudience/model/Operator", "holds", "(I)Z"⟩ : MethodName)) hown (mvT hZ (hw _ (List.mem_of_getElem? (i := 13) rfl))) (mvT hZ (hw _ (List.mem_of_getElem? (i := 14) rfl))) (notFace_of_selects (args := #[]) (mvT hZ (hw _ (List.mem_of_getElem? (i := 16) rfl)))) (mvT hZ (hw _ (List.mem_of_getElem? (i := 16) rfl))) (mvT hZ (hw _ (List.mem_of_getElem? (i := 15) rfl))) (by decide) (backOf (W := 1) (rmHolds l Z a0 hw [] og m2 (4 : Int32) (1 : Int32) h0 n0 sz E4 O4 (Or.inr (Or.inr (Or.inr (Or.inr (Or.inl ⟨rfl, Or.inl ⟨mgt, rfl⟩⟩)))))) hZ (hw _ (List.mem_of_getElem? (i := 17) rfl)) (hw _ (List.mem_of_getElem? (i := 6) rfl)) (by decide) (by decide)) q24_a q24_c (g := (mkF m 30 #[.val (.int i0), .val (.int i1), .val (.int i2), .val (.ref og), .val (.int n), .val (.int m2), .unset] [(.int m2), (.ref og), (.int (0 : Int32))])) rfl (by rw [hml]; rfl) (Steps.refl _) (argsL := [(.int m2)]) (rest := [(.int (0 : Int32))]) (lenOf pd__28I_29Z rfl) rfl (by show 2 * 0 + _ ≤ _; exact Nat.le_of_eq rfl) (hb hby at_30) (fun _ _ => ⟨rfl, e23_, (by decide : 0 + 0 ≤ _), (by decide : 0 + 0 ≤ _)⟩)
    dsimp only [Pt.U, Pt.locs, Pt.cells, Pt.slots] at X24_ l24_ y24_ z24_ st24_ hQ24_
    subst l24_ y24_ z24_
    obtain ⟨rfl, N24_q, e24_⟩ := hQ24_
    have N24_ := Fr.app N23_ N24_q
    refine Runs.tr st24_ ?_
    replace X24_ := wider X24_ (c' := 0) (s' := 0) (by decide) (by decide)
    show Runs p.tables e below _ (T24_.setTop (mkF m 33 #[.val (.int i0), .val (.int i1), .val (.int i2), .val (.ref og), .val (.int n), .val (.int m2), .unset] [(.int (1 : Int32)), (.int (0 : Int32))]))
    refine Runs.st (fun t' k' => XS.icmpYes X24_.here hx rfl (pc0 := 33) (pc' := 40) rfl (hb hby at_33) rfl (feq (by decide)).2 (by decide) (by decide) k') ?_
    show Runs p.tables e below _ (T24_.setTop (mkF m 40 #[.val (.int i0), .val (.int i1), .val (.int i2), .val (.ref og), .val (.int n), .val (.int m2), .unset] []))
    refine Runs.st (fun t' k' => XS.iconst X24_.here hx rfl (hb hby at_40) k') ?_
    show Runs p.tables e below _ (T24_.setTop (mkF m 41 #[.val (.int i0), .val (.int i1), .val (.int i2), .val (.ref og), .val (.int n), .val (.int m2), .unset] [(.int (0 : Int32))]))
    refine Runs.st (fun t' k' => XS.istore X24_.here hx rfl (hb hby at_41) rfl (l' := #[.val (.int i0), .val (.int i1), .val (.int i2), .val (.ref og), .val (.int n), .val (.int m2), .val (.int (0 : Int32))]) rfl k') ?_
    show Runs p.tables e below _ (T24_.setTop (mkF m 43 #[.val (.int i0), .val (.int i1), .val (.int i2), .val (.ref og), .val (.int n), .val (.int m2), .val (.int (0 : Int32))] []))
    refine Runs.st (fun t' k' => XS.aloadN X24_.here hx rfl (hb hby at_43) rfl rfl k') ?_
    show Runs p.tables e below _ (T24_.setTop (mkF m 44 #[.val (.int i0), .val (.int i1), .val (.int i2), .val (.ref og), .val (.int n), .val (.int m2), .val (.int (0 : Int32))] [(.ref og)]))
    obtain ⟨cq25_, kq25_, q25_a, q25_b, q25_c⟩ := isOf hZ e24_ E4
    obtain ⟨_, _, ⟨T25_, L25_, k25_, n25_⟩, -, X25_, ⟨Lc25_, hQ25_, l25_, y25_, z25_⟩, st25_⟩ := X24_.virtualBack hx (y := (⟨"com/example/attribute_to_audience/attributetoaudience/model/Operator", "isEquality", "()Z"⟩ : MethodName)) (z := (⟨"com/example/attribute_to_audience/attributetoaudience/model/Operator", "isEquality", "()Z"⟩ : MethodName)) hown (mvT hZ (hw _ (List.mem_of_getElem? (i := 27) rfl))) (mvT hZ (hw _ (List.mem_of_getElem? (i := 28) rfl))) (notFace_of_selects (args := #[]) (mvT hZ (hw _ (List.mem_of_getElem? (i := 30) rfl)))) (mvT hZ (hw _ (List.mem_of_getElem? (i := 30) rfl))) (mvT hZ (hw _ (List.mem_of_getElem? (i := 29) rfl))) (by decide) (backOf (W := 0) (rmEq l Z a0 hw [] og oe one (0 : Int32) h0 n0 sz S0 S1 (Or.inr ⟨⟨neq O4 O0 (by decide), neq O4 O1 (by decide)⟩, rfl⟩)) hZ (hw _ (List.mem_of_getElem? (i := 31) rfl)) (hw _ (List.mem_of_getElem? (i := 6) rfl)) (by decide) (by decide)) q25_a q25_c (g := (mkF m 44 #[.val (.int i0), .val (.int i1), .val (.int i2), .val (.ref og), .val (.int n), .val (.int m2), .val (.int (0 : Int32))] [(.ref og)])) rfl (by rw [hml]; rfl) (Steps.refl _) (argsL := []) (rest := []) (lenOf pd__28_29Z rfl) rfl (by show 2 * 0 + _ ≤ _; exact Nat.le_of_eq rfl) (hb hby at_44) (fun _ _ => ⟨rfl, e24_, (by decide : 0 + 0 ≤ _), (by decide : 0 + 0 ≤ _)⟩)
    dsimp only [Pt.U, Pt.locs, Pt.cells, Pt.slots] at X25_ l25_ y25_ z25_ st25_ hQ25_
    subst l25_ y25_ z25_
    obtain ⟨rfl, N25_q, e25_⟩ := hQ25_
    have N25_ := Fr.app N24_ N25_q
    refine Runs.tr st25_ ?_
    replace X25_ := wider X25_ (c' := 0) (s' := 0) (by decide) (by decide)
    show Runs p.tables e below _ (T25_.setTop (mkF m 47 #[.val (.int i0), .val (.int i1), .val (.int i2), .val (.ref og), .val (.int n), .val (.int m2), .val (.int (0 : Int32))] [(.int (0 : Int32))]))
    refine Runs.st (fun t' k' => XS.iload X25_.here hx rfl (hb hby at_47) rfl k') ?_
    show Runs p.tables e below _ (T25_.setTop (mkF m 49 #[.val (.int i0), .val (.int i1), .val (.int i2), .val (.ref og), .val (.int n), .val (.int m2), .val (.int (0 : Int32))] [(.int (0 : Int32)), (.int (0 : Int32))]))
    refine Runs.st (fun t' k' => XS.icmpNo X25_.here hx rfl (hb hby at_49) rfl (teq rfl).2 k') ?_
    show Runs p.tables e below _ (T25_.setTop (mkF m 52 #[.val (.int i0), .val (.int i1), .val (.int i2), .val (.ref og), .val (.int n), .val (.int m2), .val (.int (0 : Int32))] []))
    refine Runs.st (fun t' k' => XS.iconst X25_.here hx rfl (hb hby at_52) k') ?_
    show Runs p.tables e below _ (T25_.setTop (mkF m 53 #[.val (.int i0), .val (.int i1), .val (.int i2), .val (.ref og), .val (.int n), .val (.int m2), .val (.int (0 : Int32))] [(.int (1 : Int32))]))
    refine Runs.st (fun t' k' => XS.goto X25_.here hx rfl (pc0 := 53) (pc' := 57) rfl (hb hby at_53) (by decide) (by decide) k') ?_
    show Runs p.tables e below _ (T25_.setTop (mkF m 57 #[.val (.int i0), .val (.int i1), .val (.int i2), .val (.ref og), .val (.int n), .val (.int m2), .val (.int (0 : Int32))] [(.int (1 : Int32))]))
    refine Runs.ret X25_ hlk (v := (some (.int (1 : Int32)))) (fun h => by rw [hret] at h; cases h) (by decide) (by decide) ?_ (fun fs hr => retN X25_ hx (t := .boolean) hret (by simp) (hb hby at_57) hr)
    try rw [e25_]
    exact ⟨rfl, N25_⟩
  · skip
    refine Runs.st (fun t' k' => XS.iloadN X0.here hx rfl (hb hby at_0) rfl k') ?_
    show Runs p.tables e below _ (s₁.setTop (mkF m 1 #[.val (.int i0), .val (.int i1), .val (.int i2), .unset, .unset, .unset, .unset] [(.int i0)]))
    obtain ⟨_, _, ⟨T26_, L26_, k26_, n26_⟩, -, X26_, ⟨Lc26_, hQ26_, l26_, y26_, z26_⟩, st26_⟩ := Jvm.LawKit.callS X0 hx (y := (⟨"com/example/attribute_to_audience/attributetoaudience/model/OperatorIsEqualityPinLaw", "pick", "(I)Lcom/example/attribute_to_audience/attributetoaudience/model/Operator;"⟩ : MethodName)) hown (mvT hZ (hw _ (List.mem_of_getElem? (i := 0) rfl))) (mvT hZ (hw _ (List.mem_of_getElem? (i := 1) rfl))) (mvT hZ (hw _ (List.mem_of_getElem? (i := 2) rfl))) (mvT hZ (hw _ (List.mem_of_getElem? (i := 3) rfl))) (by decide) (backOf (W := 0) (rmPick l Z a0 hw [] i0 oge oe one ol ole og oge h0 n0 sz S0 S1 S2 S3 S4 S5 (Or.inr (Or.inr (Or.inr (Or.inr (Or.inr (⟨hj, rfl⟩))))))) hZ (hw _ (List.mem_of_getElem? (i := 3) rfl)) (hw _ (List.mem_of_getElem? (i := 2) rfl)) (by decide) (by decide)) (g := (mkF m 1 #[.val (.int i0), .val (.int i1), .val (.int i2), .unset, .unset, .unset, .unset] [(.int i0)])) rfl (by rw [hml]; rfl) (argsL := [(.int i0)]) (rest := []) (lenOf pd__28I_29Lcom_2fexample_2fattribute_to_audience_2fattributetoaudience_2fmodel_2fOperator_3b rfl) rfl (by show 2 * 0 + _ ≤ _; exact Nat.le_of_eq rfl) (hb hby at_1) (fun _ _ => ⟨rfl, e0, (by decide : 0 + 0 ≤ _), (by decide : 0 + 0 ≤ _)⟩)
    dsimp only [Pt.U, Pt.locs, Pt.cells, Pt.slots] at X26_ l26_ y26_ z26_ st26_ hQ26_
    subst l26_ y26_ z26_
    obtain ⟨rfl, N26_q, e26_⟩ := hQ26_
    have N26_ := Fr.app N0 N26_q
    refine Runs.st (st26_) ?_
    replace X26_ := wider X26_ (c' := 0) (s' := 0) (by decide) (by decide)
    show Runs p.tables e below _ (T26_.setTop (mkF m 4 #[.val (.int i0), .val (.int i1), .val (.int i2), .unset, .unset, .unset, .unset] [(.ref oge)]))
    refine Runs.st (fun t' k' => XS.astoreN X26_.here hx rfl (hb hby at_4) rfl rfl (l' := #[.val (.int i0), .val (.int i1), .val (.int i2), .val (.ref oge), .unset, .unset, .unset]) rfl k') ?_
    show Runs p.tables e below _ (T26_.setTop (mkF m 5 #[.val (.int i0), .val (.int i1), .val (.int i2), .val (.ref oge), .unset, .unset, .unset] []))
    refine Runs.st (fun t' k' => XS.iloadN X26_.here hx rfl (hb hby at_5) rfl k') ?_
    show Runs p.tables e below _ (T26_.setTop (mkF m 6 #[.val (.int i0), .val (.int i1), .val (.int i2), .val (.ref oge), .unset, .unset, .unset] [(.int i1)]))
    refine Runs.st (fun t' k' => X26_.ldcInt hx hown (mvT hZ (hw _ (List.mem_of_getElem? (i := 8) rfl))) (g := (mkF m 6 #[.val (.int i0), .val (.int i1), .val (.int i2), .val (.ref oge), .unset, .unset, .unset] [(.int i1)])) rfl (hb hby at_6) t' k') ?_
    show Runs p.tables e below _ (T26_.setTop (mkF m 8 #[.val (.int i0), .val (.int i1), .val (.int i2), .val (.ref oge), .unset, .unset, .unset] [(.int (-2147483648 : Int32)), (.int i1)]))
    refine Runs.st (fun t' k' => XS.ior X26_.here hx rfl (hb hby at_8) rfl k') ?_
    show Runs p.tables e below _ (T26_.setTop (mkF m 9 #[.val (.int i0), .val (.int i1), .val (.int i2), .val (.ref oge), .unset, .unset, .unset] [(.int (i1 ||| (-2147483648 : Int32)))]))
    rw [← hn]
    refine Runs.st (fun t' k' => XS.istore X26_.here hx rfl (hb hby at_9) rfl (l' := #[.val (.int i0), .val (.int i1), .val (.int i2), .val (.ref oge), .val (.int n), .unset, .unset]) rfl k') ?_
    show Runs p.tables e below _ (T26_.setTop (mkF m 11 #[.val (.int i0), .val (.int i1), .val (.int i2), .val (.ref oge), .val (.int n), .unset, .unset] []))
    refine Runs.st (fun t' k' => XS.iconst X26_.here hx rfl (hb hby at_11) k') ?_
    show Runs p.tables e below _ (T26_.setTop (mkF m 12 #[.val (.int i0), .val (.int i1), .val (.int i2), .val (.ref oge), .val (.int n), .unset, .unset] [(.int (1 : Int32))]))
    refine Runs.st (fun t' k' => XS.iloadN X26_.here hx rfl (hb hby at_12) rfl k') ?_
    show Runs p.tables e below _ (T26_.setTop (mkF m 13 #[.val (.int i0), .val (.int i1), .val (.int i2), .val (.ref oge), .val (.int n), .unset, .unset] [(.int i2), (.int (1 : Int32))]))
    refine Runs.st (fun t' k' => X26_.ldcInt hx hown (mvT hZ (hw _ (List.mem_of_getElem? (i := 4) rfl))) (g := (mkF m 13 #[.val (.int i0), .val (.int i1), .val (.int i2), .val (.ref oge), .val (.int n), .unset, .unset] [(.int i2), (.int (1 : Int32))])) rfl (hb hby at_13) t' k') ?_
    show Runs p.tables e below _ (T26_.setTop (mkF m 15 #[.val (.int i0), .val (.int i1), .val (.int i2), .val (.ref oge), .val (.int n), .unset, .unset] [(.int (2147483647 : Int32)), (.int i2), (.int (1 : Int32))]))
    refine Runs.st (fun t' k' => XS.iand X26_.here hx rfl (hb hby at_15) rfl k') ?_
    show Runs p.tables e below _ (T26_.setTop (mkF m 16 #[.val (.int i0), .val (.int i1), .val (.int i2), .val (.ref oge), .val (.int n), .unset, .unset] [(.int (i2 &&& (2147483647 : Int32))), (.int (1 : Int32))]))
    obtain ⟨_, _, ⟨T27_, L27_, k27_, n27_⟩, -, X27_, ⟨Lc27_, hQ27_, l27_, y27_, z27_⟩, st27_⟩ := Jvm.LawKit.callS X26_ hx (y := (⟨"java/lang/Math", "max", "(II)I"⟩ : MethodName)) hown (mvT hZ (hw _ (List.mem_of_getElem? (i := 9) rfl))) (mvT hZ (hw _ (List.mem_of_getElem? (i := 10) rfl))) (mvT hZ (hw _ (List.mem_of_getElem? (i := 11) rfl))) (mvT hZ (hw _ (List.mem_of_getElem? (i := 12) rfl))) (by decide) (backOf (W := 0) (rmMax l Z a0 hw [] (1 : Int32) (i2 &&& (2147483647 : Int32)) m2 h0 n0 sz hm2) hZ (hw _ (List.mem_of_getElem? (i := 12) rfl)) (hw _ (List.mem_of_getElem? (i := 11) rfl)) (by decide) (by decide)) (g := (mkF m 16 #[.val (.int i0), .val (.int i1), .val (.int i2), .val (.ref oge), .val (.int n), .unset, .unset] [(.int (i2 &&& (2147483647 : Int32))), (.int (1 : Int32))])) rfl (by rw [hml]; rfl) (argsL := [(.int (1 : Int32)), (.int (i2 &&& (2147483647 : Int32)))]) (rest := []) (lenOf pd__28II_29I rfl) rfl (by show 2 * 0 + _ ≤ _; exact Nat.le_of_eq rfl) (hb hby at_16) (fun _ _ => ⟨rfl, e26_, (by decide : 0 + 0 ≤ _), (by decide : 0 + 0 ≤ _)⟩)
    dsimp only [Pt.U, Pt.locs, Pt.cells, Pt.slots] at X27_ l27_ y27_ z27_ st27_ hQ27_
    subst l27_ y27_ z27_
    obtain ⟨rfl, N27_q, e27_⟩ := hQ27_
    have N27_ := Fr.app N26_ N27_q
    refine Runs.st (st27_) ?_
    replace X27_ := wider X27_ (c' := 0) (s' := 0) (by decide) (by decide)
    show Runs p.tables e below _ (T27_.setTop (mkF m 19 #[.val (.int i0), .val (.int i1), .val (.int i2), .val (.ref oge), .val (.int n), .unset, .unset] [(.int m2)]))
    refine Runs.st (fun t' k' => XS.istore X27_.here hx rfl (hb hby at_19) rfl (l' := #[.val (.int i0), .val (.int i1), .val (.int i2), .val (.ref oge), .val (.int n), .val (.int m2), .unset]) rfl k') ?_
    show Runs p.tables e below _ (T27_.setTop (mkF m 21 #[.val (.int i0), .val (.int i1), .val (.int i2), .val (.ref oge), .val (.int n), .val (.int m2), .unset] []))
    refine Runs.st (fun t' k' => XS.aloadN X27_.here hx rfl (hb hby at_21) rfl rfl k') ?_
    show Runs p.tables e below _ (T27_.setTop (mkF m 22 #[.val (.int i0), .val (.int i1), .val (.int i2), .val (.ref oge), .val (.int n), .val (.int m2), .unset] [(.ref oge)]))
    refine Runs.st (fun t' k' => XS.iload X27_.here hx rfl (hb hby at_22) rfl k') ?_
    show Runs p.tables e below _ (T27_.setTop (mkF m 24 #[.val (.int i0), .val (.int i1), .val (.int i2), .val (.ref oge), .val (.int n), .val (.int m2), .unset] [(.int n), (.ref oge)]))
    obtain ⟨cq28_, kq28_, q28_a, q28_b, q28_c⟩ := isOf hZ e27_ E5
    obtain ⟨_, _, ⟨T28_, L28_, k28_, n28_⟩, -, X28_, ⟨Lc28_, hQ28_, l28_, y28_, z28_⟩, st28_⟩ := X27_.virtualBack hx (y := (⟨"com/example/attribute_to_audience/attributetoaudience/model/Operator", "holds", "(I)Z"⟩ : MethodName)) (z := (⟨"com/example/attribute_to_audience/attributetoaudience/model/Operator", "holds", "(I)Z"⟩ : MethodName)) hown (mvT hZ (hw _ (List.mem_of_getElem? (i := 13) rfl))) (mvT hZ (hw _ (List.mem_of_getElem? (i := 14) rfl))) (notFace_of_selects (args := #[]) (mvT hZ (hw _ (List.mem_of_getElem? (i := 16) rfl)))) (mvT hZ (hw _ (List.mem_of_getElem? (i := 16) rfl))) (mvT hZ (hw _ (List.mem_of_getElem? (i := 15) rfl))) (by decide) (backOf (W := 0) (rmHolds l Z a0 hw [] oge n (5 : Int32) (0 : Int32) h0 n0 sz E5 O5 (Or.inr (Or.inr (Or.inr (Or.inr (Or.inr (⟨rfl, Or.inl ⟨nlt, rfl⟩⟩))))))) hZ (hw _ (List.mem_of_getElem? (i := 17) rfl)) (hw _ (List.mem_of_getElem? (i := 6) rfl)) (by decide) (by decide)) q28_a q28_c (g := (mkF m 24 #[.val (.int i0), .val (.int i1), .val (.int i2), .val (.ref oge), .val (.int n), .val (.int m2), .unset] [(.int n), (.ref oge)])) rfl (by rw [hml]; rfl) (Steps.refl _) (argsL := [(.int n)]) (rest := []) (lenOf pd__28I_29Z rfl) rfl (by show 2 * 0 + _ ≤ _; exact Nat.le_of_eq rfl) (hb hby at_24) (fun _ _ => ⟨rfl, e27_, (by decide : 0 + 0 ≤ _), (by decide : 0 + 0 ≤ _)⟩)
    dsimp only [Pt.U, Pt.locs, Pt.cells, Pt.slots] at X28_ l28_ y28_ z28_ st28_ hQ28_
    subst l28_ y28_ z28_
    obtain ⟨rfl, N28_q, e28_⟩ := hQ28_
    have N28_ := Fr.app N27_ N28_q
    refine Runs.tr st28_ ?_
    replace X28_ := wider X28_ (c' := 0) (s' := 0) (by decide) (by decide)
    show Runs p.tables e below _ (T28_.setTop (mkF m 27 #[.val (.int i0), .val (.int i1), .val (.int i2), .val (.ref oge), .val (.int n), .val (.int m2), .unset] [(.int (0 : Int32))]))
    refine Runs.st (fun t' k' => XS.aloadN X28_.here hx rfl (hb hby at_27) rfl rfl k') ?_
    show Runs p.tables e below _ (T28_.setTop (mkF m 28 #[.val (.int i0), .val (.int i1), .val (.int i2), .val (.ref oge), .val (.int n), .val (.int m2), .unset] [(.ref oge), (.int (0 : Int32))]))
    refine Runs.st (fun t' k' => XS.iload X28_.here hx rfl (hb hby at_28) rfl k') ?_
    show Runs p.tables e below _ (T28_.setTop (mkF m 30 #[.val (.int i0), .val (.int i1), .val (.int i2), .val (.ref oge), .val (.int n), .val (.int m2), .unset] [(.int m2), (.ref oge), (.int (0 : Int32))]))
    obtain ⟨cq29_, kq29_, q29_a, q29_b, q29_c⟩ := isOf hZ e28_ E5
    obtain ⟨_, _, ⟨T29_, L29_, k29_, n29_⟩, -, X29_, ⟨Lc29_, hQ29_, l29_, y29_, z29_⟩, st29_⟩ := X28_.virtualBack hx (y := (⟨"com/example/attribute_to_audience/attributetoaudience/model/Operator", "holds", "(I)Z"⟩ : MethodName)) (z := (⟨"com/example/attribute_to_audience/attributetoaudience/model/Operator", "holds", "(I)Z"⟩ : MethodName)) hown (mvT hZ (hw _ (List.mem_of_getElem? (i := 13) rfl))) (mvT hZ (hw _ (List.mem_of_getElem? (i := 14) rfl))) (notFace_of_selects (args := #[]) (mvT hZ (hw _ (List.mem_of_getElem? (i := 16) rfl)))) (mvT hZ (hw _ (List.mem_of_getElem? (i := 16) rfl))) (mvT hZ (hw _ (List.mem_of_getElem? (i := 15) rfl))) (by decide) (backOf (W := 1) (rmHolds l Z a0 hw [] oge m2 (5 : Int32) (1 : Int32) h0 n0 sz E5 O5 (Or.inr (Or.inr (Or.inr (Or.inr (Or.inr (⟨rfl, Or.inr ⟨mlt, rfl⟩⟩))))))) hZ (hw _ (List.mem_of_getElem? (i := 17) rfl)) (hw _ (List.mem_of_getElem? (i := 6) rfl)) (by decide) (by decide)) q29_a q29_c (g := (mkF m 30 #[.val (.int i0), .val (.int i1), .val (.int i2), .val (.ref oge), .val (.int n), .val (.int m2), .unset] [(.int m2), (.ref oge), (.int (0 : Int32))])) rfl (by rw [hml]; rfl) (Steps.refl _) (argsL := [(.int m2)]) (rest := [(.int (0 : Int32))]) (lenOf pd__28I_29Z rfl) rfl (by show 2 * 0 + _ ≤ _; exact Nat.le_of_eq rfl) (hb hby at_30) (fun _ _ => ⟨rfl, e28_, (by decide : 0 + 0 ≤ _), (by decide : 0 + 0 ≤ _)⟩)
    dsimp only [Pt.U, Pt.locs, Pt.cells, Pt.slots] at X29_ l29_ y29_ z29_ st29_ hQ29_
    subst l29_ y29_ z29_
    obtain ⟨rfl, N29_q, e29_⟩ := hQ29_
    have N29_ := Fr.app N28_ N29_q
    refine Runs.tr st29_ ?_
    replace X29_ := wider X29_ (c' := 0) (s' := 0) (by decide) (by decide)
    show Runs p.tables e below _ (T29_.setTop (mkF m 33 #[.val (.int i0), .val (.int i1), .val (.int i2), .val (.ref oge), .val (.int n), .val (.int m2), .unset] [(.int (1 : Int32)), (.int (0 : Int32))]))
    refine Runs.st (fun t' k' => XS.icmpYes X29_.here hx rfl (pc0 := 33) (pc' := 40) rfl (hb hby at_33) rfl (feq (by decide)).2 (by decide) (by decide) k') ?_
    show Runs p.tables e below _ (T29_.setTop (mkF m 40 #[.val (.int i0), .val (.int i1), .val (.int i2), .val (.ref oge), .val (.int n), .val (.int m2), .unset] []))
    refine Runs.st (fun t' k' => XS.iconst X29_.here hx rfl (hb hby at_40) k') ?_
    show Runs p.tables e below _ (T29_.setTop (mkF m 41 #[.val (.int i0), .val (.int i1), .val (.int i2), .val (.ref oge), .val (.int n), .val (.int m2), .unset] [(.int (0 : Int32))]))
    refine Runs.st (fun t' k' => XS.istore X29_.here hx rfl (hb hby at_41) rfl (l' := #[.val (.int i0), .val (.int i1), .val (.int i2), .val (.ref oge), .val (.int n), .val (.int m2), .val (.int (0 : Int32))]) rfl k') ?_
    show Runs p.tables e below _ (T29_.setTop (mkF m 43 #[.val (.int i0), .val (.int i1), .val (.int i2), .val (.ref oge), .val (.int n), .val (.int m2), .val (.int (0 : Int32))] []))
    refine Runs.st (fun t' k' => XS.aloadN X29_.here hx rfl (hb hby at_43) rfl rfl k') ?_
    show Runs p.tables e below _ (T29_.setTop (mkF m 44 #[.val (.int i0), .val (.int i1), .val (.int i2), .val (.ref oge), .val (.int n), .val (.int m2), .val (.int (0 : Int32))] [(.ref oge)]))
    obtain ⟨cq30_, kq30_, q30_a, q30_b, q30_c⟩ := isOf hZ e29_ E5
    obtain ⟨_, _, ⟨T30_, L30_, k30_, n30_⟩, -, X30_, ⟨Lc30_, hQ30_, l30_, y30_, z30_⟩, st30_⟩ := X29_.virtualBack hx (y := (⟨"com/example/attribute_to_audience/attributetoaudience/model/Operator", "isEquality", "()Z"⟩ : MethodName)) (z := (⟨"com/example/attribute_to_audience/attributetoaudience/model/Operator", "isEquality", "()Z"⟩ : MethodName)) hown (mvT hZ (hw _ (List.mem_of_getElem? (i := 27) rfl))) (mvT hZ (hw _ (List.mem_of_getElem? (i := 28) rfl))) (notFace_of_selects (args := #[]) (mvT hZ (hw _ (List.mem_of_getElem? (i := 30) rfl)))) (mvT hZ (hw _ (List.mem_of_getElem? (i := 30) rfl))) (mvT hZ (hw _ (List.mem_of_getElem? (i := 29) rfl))) (by decide) (backOf (W := 0) (rmEq l Z a0 hw [] oge oe one (0 : Int32) h0 n0 sz S0 S1 (Or.inr ⟨⟨neq O5 O0 (by decide), neq O5 O1 (by decide)⟩, rfl⟩)) hZ (hw _ (List.mem_of_getElem? (i := 31) rfl)) (hw _ (List.mem_of_getElem? (i := 6) rfl)) (by decide) (by decide)) q30_a q30_c (g := (mkF m 44 #[.val (.int i0), .val (.int i1), .val (.int i2), .val (.ref oge), .val (.int n), .val (.int m2), .val (.int (0 : Int32))] [(.ref oge)])) rfl (by rw [hml]; rfl) (Steps.refl _) (argsL := []) (rest := []) (lenOf pd__28_29Z rfl) rfl (by show 2 * 0 + _ ≤ _; exact Nat.le_of_eq rfl) (hb hby at_44) (fun _ _ => ⟨rfl, e29_, (by decide : 0 + 0 ≤ _), (by decide : 0 + 0 ≤ _)⟩)
    dsimp only [Pt.U, Pt.locs, Pt.cells, Pt.slots] at X30_ l30_ y30_ z30_ st30_ hQ30_
    subst l30_ y30_ z30_
    obtain ⟨rfl, N30_q, e30_⟩ := hQ30_
    have N30_ := Fr.app N29_ N30_q
    refine Runs.tr st30_ ?_
    replace X30_ := wider X30_ (c' := 0) (s' := 0) (by decide) (by decide)
    show Runs p.tables e below _ (T30_.setTop (mkF m 47 #[.val (.int i0), .val (.int i1), .val (.int i2), .val (.ref oge), .val (.int n), .val (.int m2), .val (.int (0 : Int32))] [(.int (0 : Int32))]))
    refine Runs.st (fun t' k' => XS.iload X30_.here hx rfl (hb hby at_47) rfl k') ?_
    show Runs p.tables e below _ (T30_.setTop (mkF m 49 #[.val (.int i0), .val (.int i1), .val (.int i2), .val (.ref oge), .val (.int n), .val (.int m2), .val (.int (0 : Int32))] [(.int (0 : Int32)), (.int (0 : Int32))]))
    refine Runs.st (fun t' k' => XS.icmpNo X30_.here hx rfl (hb hby at_49) rfl (teq rfl).2 k') ?_
    show Runs p.tables e below _ (T30_.setTop (mkF m 52 #[.val (.int i0), .val (.int i1), .val (.int i2), .val (.ref oge), .val (.int n), .val (.int m2), .val (.int (0 : Int32))] []))
    refine Runs.st (fun t' k' => XS.iconst X30_.here hx rfl (hb hby at_52) k') ?_
    show Runs p.tables e below _ (T30_.setTop (mkF m 53 #[.val (.int i0), .val (.int i1), .val (.int i2), .val (.ref oge), .val (.int n), .val (.int m2), .val (.int (0 : Int32))] [(.int (1 : Int32))]))
    refine Runs.st (fun t' k' => XS.goto X30_.here hx rfl (pc0 := 53) (pc' := 57) rfl (hb hby at_53) (by decide) (by decide) k') ?_
    show Runs p.tables e below _ (T30_.setTop (mkF m 57 #[.val (.int i0), .val (.int i1), .val (.int i2), .val (.ref oge), .val (.int n), .val (.int m2), .val (.int (0 : Int32))] [(.int (1 : Int32))]))
    refine Runs.ret X30_ hlk (v := (some (.int (1 : Int32)))) (fun h => by rw [hret] at h; cases h) (by decide) (by decide) ?_ (fun fs hr => retN X30_ hx (t := .boolean) hret (by simp) (hb hby at_57) hr)
    try rw [e30_]
    exact ⟨rfl, N30_⟩
set_option maxRecDepth 65536 in
set_option maxHeartbeats 40000000 in
theorem comes_1 {Post : Tables → Env → Array Value → State → Outcome → State → Prop} (hpost : ∀ tb e args s v u, (limb_1_1.after args s (.returned v) u = true ∧ limb_1_2.after args s (.returned v) u = true ∧ True) → FrameEnd s (.returned v) u (Jvm.fieldLocs frame_1_writes args s ++ Jvm.arrayLocs frame_1_arrays args s ++ Jvm.staticLocs frame_1_statics s) 0 0 → Post tb e args s (.returned v) u) :
    ArmFor flags0 classFile x code maxLocals ret World_1 tables_1 room_1 Calls_1 rest_1 Pre_1 Post := by
  intro l hfl _ _ p e ha hc hk s m args below hf hA hF happ hP
  obtain ⟨hcalls, hrest, hpre⟩ := hP
  obtain ⟨-, -, -, hnamed, -, -, -, hat⟩ := (Spec.applies_iff hf).mp happ
  obtain ⟨hg, hn⟩ := and_e (Cond.before_iff.mp (show (Jvm.Cond.and given_1 narrow_1).before args s = true from hpre))
  obtain ⟨gc, gr⟩ := and_e hg
  obtain ⟨gi0, gr⟩ := and_e gr
  obtain ⟨gi1, gr⟩ := and_e gr
  have gi2 := gr
  obtain ⟨w0, w1, w2, rfl⟩ : ∃ w0 w1 w2 : Value, args = #[w0, w1, w2] := by
    have hs : args.size = 3 := by simpa [Cond.value, given_1] using gc
    obtain ⟨L⟩ := args
    match L, hs with
    | [w0, w1, w2], _ => exact ⟨w0, w1, w2, rfl⟩
  have hw := fun d (hd : d ∈ tables_1) => atoms_spec (ws := Jvm.Cond.code x code maxLocals ret :: tables_1) hat d (List.mem_cons_of_mem _ hd)
  have hfit : Fit s := fun {y c} hc i hi => by
    obtain ⟨ha, rfl⟩ := Array.getElem?_eq_some_iff.mp hc
    have q := List.all_eq_true.mp ((Array.all_eq_true_iff_forall_mem.mp hF) _ (Array.getElem_mem ha)) i (List.mem_range.mpr hi)
    simpa [Array.getElem?_eq_getElem hi] using q
  obtain ⟨i0, ei0⟩ := is_v gi0
  obtain rfl : w0 = (.int i0) := Option.some.inj ei0
  obtain ⟨i1, ei1⟩ := is_v gi1
  obtain rfl : w1 = (.int i1) := Option.some.inj ei1
  obtain ⟨i2, ei2⟩ := is_v gi2
  obtain rfl : w2 = (.int i2) := Option.some.inj ei2
  obtain ⟨gx0, hn⟩ := and_e hn
  obtain ⟨go0, hn⟩ := and_e hn
  obtain ⟨oe, ev0, S0, E0⟩ := the_static gx0 (hw _ (List.mem_of_getElem? (i := 6) rfl)) (hw _ (List.mem_of_getElem? (i := 7) rfl))
  have O0 := the_int ev0 go0
  obtain ⟨gx1, hn⟩ := and_e hn
  obtain ⟨go1, hn⟩ := and_e hn
  obtain ⟨one, ev1, S1, E1⟩ := the_static gx1 (hw _ (List.mem_of_getElem? (i := 6) rfl)) (hw _ (List.mem_of_getElem? (i := 34) rfl))
  have O1 := the_int ev1 go1
  obtain ⟨gx2, hn⟩ := and_e hn
  obtain ⟨go2, hn⟩ := and_e hn
  obtain ⟨ol, ev2, S2, E2⟩ := the_static gx2 (hw _ (List.mem_of_getElem? (i := 6) rfl)) (hw _ (List.mem_of_getElem? (i := 37) rfl))
  have O2 := the_int ev2 go2
  obtain ⟨gx5, hn⟩ := and_e hn
  obtain ⟨go5, hn⟩ := and_e hn
  obtain ⟨oge, ev5, S5, E5⟩ := the_static gx5 (hw _ (List.mem_of_getElem? (i := 6) rfl)) (hw _ (List.mem_of_getElem? (i := 39) rfl))
  have O5 := the_int ev5 go5
  obtain ⟨gx3, hn⟩ := and_e hn
  obtain ⟨go3, hn⟩ := and_e hn
  obtain ⟨ole, ev3, S3, E3⟩ := the_static gx3 (hw _ (List.mem_of_getElem? (i := 6) rfl)) (hw _ (List.mem_of_getElem? (i := 41) rfl))
  have O3 := the_int ev3 go3
  obtain ⟨gx4, hn⟩ := and_e hn
  have go4 := hn
  obtain ⟨og, ev4, S4, E4⟩ := the_static gx4 (hw _ (List.mem_of_getElem? (i := 6) rfl)) (hw _ (List.mem_of_getElem? (i := 43) rfl))
  have O4 := the_int ev4 go4
  obtain ⟨n, o, h1, h2, h3, _, L, rfl, ⟨rfl, N⟩, hq⟩ := rm0 l s _ hw tables_1 i0 i1 i2 oe one ol ole og oge s.heap s.heap.size (Nat.le_refl _) S0 E0 O0 S1 E1 O1 S2 E2 O2 S3 E3 O3 S4 E4 O4 S5 E5 O5 p e ha hc hk s m _ below hf ((Spec.applies_iff_loose hf).mp happ).1 ⟨rfl, State.Warmed39.refl s, rfl⟩ trivial
  refine ⟨n, _, h1, h2, h3, hpost _ _ _ _ _ _ ⟨Cond.after_iff.mpr rfl, Cond.after_iff.mpr (eq_i res_at (Term.int_eval (1)) rfl), trivial⟩ ⟨hq.1, hq.2.1, (hq.2.2.sift fun y hy => Or.inr (N y hy)).mono (by decide) (by decide)⟩⟩
theorem main_1_1 : Claimed_1_1 := comes_1 fun _ _ _ _ _ _ h hF => ⟨h.1, hF⟩
theorem main_1_2 : Claimed_1_2 := comes_1 fun _ _ _ _ _ _ h hF => ⟨h.2.1, hF⟩
end Jvm.Pilot.@@N@@
namespace Jvm.Pilot.@@N@@
open Jvm Jvm.ClassFile Sem Op Lib Jvm.Free Jvm.Stand Jvm.Pilot.@@N@@.Jvm.D
/-! MADE BY PROGRAM (witnessworld.py) out of the Statement's table words and the real class files: 13 classes; the members and pool entries that the words name. The judged class is class 1, her method 2. -/
namespace start1
open Jvm.ClassFile
def u (s : String) : CpInfo := .utf8 (stringToUtf16 s)
/-- a pool by its gaps: so many unusable entries, then the entry; so many at the end -/
def gap : Nat → List CpInfo → List CpInfo
  | 0, r => r
  | n + 1, r => .unusable :: gap n r
def poolList (es : List (Nat × CpInfo)) (last : Nat) : List CpInfo := es.foldr (fun e r => gap e.1 (e.2 :: r)) (gap last [])
def pool (es : List (Nat × CpInfo)) (last : Nat) : Array CpInfo := ⟨poolList es last⟩
def fileOf (pool : Array CpInfo) (this : Nat) (attrs : Array Attribute := #[]) (ms : Array MethodInfo := #[]) (fl : Nat := 33) (sup : Nat := 0) (ifs : Array Nat := #[]) (fds : Array FieldInfo := #[]) : ClassFile where
  minorVersion := 0
  majorVersion := 65
  constantPool := pool
  accessFlags := fl
  thisClass := this
  superClass := sup
  interfaces := ifs
  fields := fds
  methods := ms
  attributes := attrs
def plain (name : String) (sup : Option ClassId) : Class where
  name := name
  kind := .ordinary
  loader := none
  accessFlags := 33
  super := sup
  interfaces := #[]
  cf := none
  fields := #[]
  methods := #[]
  instanceTypes := #[]
  staticTypes := #[]
  resolved := #[]
  callSites := []
  init := .initialized
  statics := none
  mirror := none

def pool0 : Array CpInfo := pool [(5, u "<init>"), (0, u "()V"), (1, .class_ 10), (1, u "java/lang/Object")] 113

def k0m0 : Method := { name := "<init>", desc := "()V", sig := { parameters := [], returnType := none }, accessFlags := 1, code := none }
/-- java/lang/Object -/
def k0 : Class := { plain "java/lang/Object" none with
  accessFlags := 33
  interfaces := #[]
  cf := some (fileOf pool0 8 #[] #[{ accessFlags := 1, nameIndex := 5, descriptorIndex := 6, attributes := #[] }] 33 0 #[] #[])
  fields := #[]
  methods := #[k0m0]
  instanceTypes := #[]
  staticTypes := #[]
  resolved := Array.replicate 124 none
  statics := none }

def pool1 : Array CpInfo := pool [(2, .class_ 4), (1, u "java/lang/Object"), (0, u "<init>"), (0, u "()V"), (0, .integer 2147483647), (0, .fieldref 9 10), (0, .class_ 11), (0, .nameAndType 12 13), (0, u "com/example/attribute_to_audience/attributetoaudience/model/Operator"), (0, u "EQUAL"), (0, u "Lcom/example/attribute_to_audience/attributetoaudience/model/Operator;"), (0, .fieldref 9 15), (0, .nameAndType 16 13), (0, u "NOT_EQUAL"), (0, .fieldref 9 18), (0, .nameAndType 19 13), (0, u "LESS"), (0, .fieldref 9 21), (0, .nameAndType 22 13), (0, u "LESS_OR_EQUAL"), (0, .fieldref 9 24), (0, .nameAndType 25 13), (0, u "GREATER"), (0, .fieldref 9 27), (0, .nameAndType 28 13), (0, u "GREATER_OR_EQUAL"), (0, .methodref 30 31), (0, .class_ 32), (0, .nameAndType 33 34), (0, u "com/example/attribute_to_audience/attributetoaudience/model/OperatorIsEqualityPinLaw"), (0, u "pick"), (0, u "(I)Lcom/example/attribute_to_audience/attributetoaudience/model/Operator;"), (0, .integer 2147483648), (0, .methodref 37 38), (0, .class_ 39), (0, .nameAndType 40 41), (0, u "java/lang/Math"), (0, u "max"), (0, u "(II)I"), (0, .methodref 9 43), (0, .nameAndType 44 45), (0, u "holds"), (0, u "(I)Z"), (0, .methodref 9 47), (0, .nameAndType 48 49), (0, u "isEquality"), (0, u "()Z"), (3, u "law"), (0, u "(III)Z")] 2

def k1m0 : Method := { name := "<init>", desc := "()V", sig := { parameters := [], returnType := none }, accessFlags := 1, code := none }
def k1c1 : Code := { maxStack := 2, maxLocals := 2, code := method_2_code, exceptionTable := #[], attributes := #[] }
def k1m1 : Method := { name := "pick", desc := "(I)Lcom/example/attribute_to_audience/attributetoaudience/model/Operator;", sig := { parameters := [.int], returnType := some (.object "com/example/attribute_to_audience/attributetoaudience/model/Operator") }, accessFlags := 10, code := some k1c1 }
def k1c2 : Code := { maxStack := 3, maxLocals := 7, code := code, exceptionTable := #[], attributes := #[] }
def k1m2 : Method := { name := "law", desc := "(III)Z", sig := { parameters := [.int, .int, .int], returnType := some .boolean }, accessFlags := 9, code := some k1c2 }
/-- com/example/attribute_to_audience/attributetoaudience/model/OperatorIsEqualityPinLaw -/
def k1 : Class := { plain "com/example/attribute_to_audience/attributetoaudience/model/OperatorIsEqualityPinLaw" (some 0) with
  accessFlags := 49
  interfaces := #[]
  cf := some (fileOf pool1 30 #[] #[{ accessFlags := 1, nameIndex := 5, descriptorIndex := 6, attributes := #[] }, { accessFlags := 10, nameIndex := 33, descriptorIndex := 34, attributes := #[] }, { accessFlags := 9, nameIndex := 53, descriptorIndex := 54, attributes := #[] }] 49 2 #[] #[])
  fields := #[]
  methods := #[k1m0, k1m1, k1m2]
  instanceTypes := #[]
  staticTypes := #[]
  resolved := Array.replicate 57 none
  statics := none }

def pool2 : Array CpInfo := pool [(1, .class_ 2), (0, u "java/lang/constant/Constable"), (0, .class_ 4), (0, u "java/lang/Object")] 6

/-- java/lang/constant/Constable -/
def k2 : Class := { plain "java/lang/constant/Constable" (some 0) with
  accessFlags := 1537
  interfaces := #[]
  cf := some (fileOf pool2 1 #[] #[] 1537 3 #[] #[])
  fields := #[]
  methods := #[]
  instanceTypes := #[]
  staticTypes := #[]
  resolved := Array.replicate 11 none
  statics := none }

def pool3 : Array CpInfo := pool [(1, .class_ 2), (0, u "java/lang/Comparable"), (0, .class_ 4), (0, u "java/lang/Object")] 7

/-- java/lang/Comparable -/
def k3 : Class := { plain "java/lang/Comparable" (some 0) with
  accessFlags := 1537
  interfaces := #[]
  cf := some (fileOf pool3 1 #[] #[] 1537 3 #[] #[])
  fields := #[]
  methods := #[]
  instanceTypes := #[]
  staticTypes := #[]
  resolved := Array.replicate 12 none
  statics := none }

def pool4 : Array CpInfo := pool [(1, .class_ 2), (0, u "java/io/Serializable"), (0, .class_ 4), (0, u "java/lang/Object")] 2

/-- java/io/Serializable -/
def k4 : Class := { plain "java/io/Serializable" (some 0) with
  accessFlags := 1537
  interfaces := #[]
  cf := some (fileOf pool4 1 #[] #[] 1537 3 #[] #[])
  fields := #[]
  methods := #[]
  instanceTypes := #[]
  staticTypes := #[]
  resolved := Array.replicate 7 none
  statics := none }

def pool5 : Array CpInfo := pool [(2, .class_ 4), (1, u "java/lang/Enum"), (0, u "name"), (0, u "Ljava/lang/String;"), (0, .fieldref 2 8), (0, .nameAndType 9 10), (0, u "ordinal"), (0, u "I"), (1, .class_ 14), (1, u "java/lang/Object"), (4, u "hash"), (86, .class_ 108), (1, u "java/lang/Enum$EnumDesc"), (2, .class_ 112), (0, u "java/lang/constant/Constable"), (0, .class_ 114), (0, u "java/lang/Comparable"), (0, .class_ 116), (0, u "java/io/Serializable"), (9, u "()I")] 77

def k5c0 : Code := { maxStack := 1, maxLocals := 1, code := jdk_37_method_2_code, exceptionTable := #[], attributes := #[] }
def k5m0 : Method := { name := "ordinal", desc := "()I", sig := { parameters := [], returnType := some .int }, accessFlags := 17, code := some k5c0 }
/-- java/lang/Enum -/
def k5 : Class := { plain "java/lang/Enum" (some 0) with
  accessFlags := 1057
  interfaces := #[2, 3, 4]
  cf := some (fileOf pool5 2 #[.nestMembers #[106]] #[{ accessFlags := 17, nameIndex := 9, descriptorIndex := 126, attributes := #[] }] 1057 12 #[111, 113, 115] #[{ accessFlags := 18, nameIndex := 5, descriptorIndex := 6, attributes := #[] }, { accessFlags := 18, nameIndex := 9, descriptorIndex := 10, attributes := #[] }, { accessFlags := 2, nameIndex := 19, descriptorIndex := 10, attributes := #[] }])
  fields := #[{ name := "name", type := (.object "java/lang/String"), accessFlags := 18, slot := 0, constantValue := 0 }, { name := "ordinal", type := .int, accessFlags := 18, slot := 1, constantValue := 0 }, { name := "hash", type := .int, accessFlags := 2, slot := 2, constantValue := 0 }]
  methods := #[k5m0]
  instanceTypes := #[(.object "java/lang/String"), .int, .int]
  staticTypes := #[]
  resolved := Array.replicate 204 none
  statics := none }

def pool6 : Array CpInfo := pool [(1, .class_ 2), (0, u "com/example/attribute_to_audience/attributetoaudience/model/Operator"), (0, .fieldref 1 4), (0, .nameAndType 5 6), (0, u "EQUAL"), (0, u "Lcom/example/attribute_to_audience/attributetoaudience/model/Operator;"), (0, .fieldref 1 8), (0, .nameAndType 9 6), (0, u "NOT_EQUAL"), (2, u "LESS"), (2, u "LESS_OR_EQUAL"), (2, u "GREATER"), (2, u "GREATER_OR_EQUAL"), (2, u "$VALUES"), (0, u "[Lcom/example/attribute_to_audience/attributetoaudience/model/Operator;"), (6, .class_ 34), (1, u "java/lang/Enum"), (8, u "symbol"), (0, u "Ljava/lang/String;"), (0, .methodref 1 46), (0, .nameAndType 47 48), (0, u "ordinal"), (0, u "()I"), (38, u "isEquality"), (0, u "()Z"), (1, u "holds"), (0, u "(I)Z")] 5

def k6c0 : Code := { maxStack := 2, maxLocals := 1, code := prog_60_method_5_code, exceptionTable := #[], attributes := #[] }
def k6m0 : Method := { name := "isEquality", desc := "()Z", sig := { parameters := [], returnType := some .boolean }, accessFlags := 1, code := some k6c0 }
def k6c1 : Code := { maxStack := 4, maxLocals := 2, code := prog_60_method_6_code, exceptionTable := #[], attributes := #[] }
def k6m1 : Method := { name := "holds", desc := "(I)Z", sig := { parameters := [.int], returnType := some .boolean }, accessFlags := 1, code := some k6c1 }
/-- com/example/attribute_to_audience/attributetoaudience/model/Operator -/
def k6 : Class := { plain "com/example/attribute_to_audience/attributetoaudience/model/Operator" (some 5) with
  accessFlags := 16433
  interfaces := #[]
  cf := some (fileOf pool6 1 #[] #[{ accessFlags := 1, nameIndex := 87, descriptorIndex := 88, attributes := #[] }, { accessFlags := 1, nameIndex := 90, descriptorIndex := 91, attributes := #[] }] 16433 32 #[] #[{ accessFlags := 16409, nameIndex := 5, descriptorIndex := 6, attributes := #[] }, { accessFlags := 16409, nameIndex := 9, descriptorIndex := 6, attributes := #[] }, { accessFlags := 16409, nameIndex := 12, descriptorIndex := 6, attributes := #[] }, { accessFlags := 16409, nameIndex := 15, descriptorIndex := 6, attributes := #[] }, { accessFlags := 16409, nameIndex := 18, descriptorIndex := 6, attributes := #[] }, { accessFlags := 16409, nameIndex := 21, descriptorIndex := 6, attributes := #[] }, { accessFlags := 18, nameIndex := 43, descriptorIndex := 44, attributes := #[] }, { accessFlags := 4122, nameIndex := 24, descriptorIndex := 25, attributes := #[] }])
  fields := #[{ name := "EQUAL", type := (.object "com/example/attribute_to_audience/attributetoaudience/model/Operator"), accessFlags := 16409, slot := 0, constantValue := 0 }, { name := "NOT_EQUAL", type := (.object "com/example/attribute_to_audience/attributetoaudience/model/Operator"), accessFlags := 16409, slot := 1, constantValue := 0 }, { name := "LESS", type := (.object "com/example/attribute_to_audience/attributetoaudience/model/Operator"), accessFlags := 16409, slot := 2, constantValue := 0 }, { name := "LESS_OR_EQUAL", type := (.object "com/example/attribute_to_audience/attributetoaudience/model/Operator"), accessFlags := 16409, slot := 3, constantValue := 0 }, { name := "GREATER", type := (.object "com/example/attribute_to_audience/attributetoaudience/model/Operator"), accessFlags := 16409, slot := 4, constantValue := 0 }, { name := "GREATER_OR_EQUAL", type := (.object "com/example/attribute_to_audience/attributetoaudience/model/Operator"), accessFlags := 16409, slot := 5, constantValue := 0 }, { name := "symbol", type := (.object "java/lang/String"), accessFlags := 18, slot := 3, constantValue := 0 }, { name := "$VALUES", type := (.array (.object "com/example/attribute_to_audience/attributetoaudience/model/Operator")), accessFlags := 4122, slot := 6, constantValue := 0 }]
  methods := #[k6m0, k6m1]
  instanceTypes := #[(.object "java/lang/String"), .int, .int, (.object "java/lang/String")]
  staticTypes := #[(.object "com/example/attribute_to_audience/attributetoaudience/model/Operator"), (.object "com/example/attribute_to_audience/attributetoaudience/model/Operator"), (.object "com/example/attribute_to_audience/attributetoaudience/model/Operator"), (.object "com/example/attribute_to_audience/attributetoaudience/model/Operator"), (.object "com/example/attribute_to_audience/attributetoaudience/model/Operator"), (.object "com/example/attribute_to_audience/attributetoaudience/model/Operator"), (.array (.object "com/example/attribute_to_audience/attributetoaudience/model/Operator"))]
  resolved := Array.replicate 97 none
  statics := some 0 }

def pool7 : Array CpInfo := pool [(1, .class_ 2), (0, u "java/lang/Math"), (1, .class_ 6), (1, u "java/lang/Object"), (0, u "<init>"), (0, u "()V"), (89, .class_ 100), (1, u "java/lang/Math$RandomNumberGeneratorHolder"), (71, u "negativeZeroFloatBits"), (0, u "J"), (2, u "negativeZeroDoubleBits"), (21, u "max"), (46, u "$assertionsDisabled"), (0, u "Z"), (88, u "(II)I"), (2, u "twoToTheDoubleScaleDown"), (0, u "D"), (4, u "twoToTheDoubleScaleUp"), (9, u "E"), (3, u "PI"), (2, u "TAU"), (2, u "DEGREES_TO_RADIANS"), (0, u "RADIANS_TO_DEGREES")] 94

def k7m0 : Method := { name := "<init>", desc := "()V", sig := { parameters := [], returnType := none }, accessFlags := 2, code := none }
def k7c1 : Code := { maxStack := 2, maxLocals := 2, code := jdk_29_method_65_code, exceptionTable := #[], attributes := #[] }
def k7m1 : Method := { name := "max", desc := "(II)I", sig := { parameters := [.int, .int], returnType := some .int }, accessFlags := 9, code := some k7c1 }
/-- java/lang/Math -/
def k7 : Class := { plain "java/lang/Math" (some 0) with
  accessFlags := 49
  interfaces := #[]
  cf := some (fileOf pool7 1 #[.nestMembers #[98]] #[{ accessFlags := 2, nameIndex := 7, descriptorIndex := 8, attributes := #[] }, { accessFlags := 9, nameIndex := 198, descriptorIndex := 335, attributes := #[] }] 49 4 #[] #[{ accessFlags := 25, nameIndex := 354, descriptorIndex := 339, attributes := #[] }, { accessFlags := 25, nameIndex := 358, descriptorIndex := 339, attributes := #[] }, { accessFlags := 25, nameIndex := 361, descriptorIndex := 339, attributes := #[] }, { accessFlags := 26, nameIndex := 364, descriptorIndex := 339, attributes := #[] }, { accessFlags := 26, nameIndex := 365, descriptorIndex := 339, attributes := #[] }, { accessFlags := 26, nameIndex := 172, descriptorIndex := 173, attributes := #[] }, { accessFlags := 26, nameIndex := 176, descriptorIndex := 173, attributes := #[] }, { accessFlags := 8, nameIndex := 344, descriptorIndex := 339, attributes := #[] }, { accessFlags := 8, nameIndex := 338, descriptorIndex := 339, attributes := #[] }, { accessFlags := 4120, nameIndex := 245, descriptorIndex := 246, attributes := #[] }])
  fields := #[{ name := "E", type := .double, accessFlags := 25, slot := 0, constantValue := 0 }, { name := "PI", type := .double, accessFlags := 25, slot := 1, constantValue := 0 }, { name := "TAU", type := .double, accessFlags := 25, slot := 2, constantValue := 0 }, { name := "DEGREES_TO_RADIANS", type := .double, accessFlags := 26, slot := 3, constantValue := 0 }, { name := "RADIANS_TO_DEGREES", type := .double, accessFlags := 26, slot := 4, constantValue := 0 }, { name := "negativeZeroFloatBits", type := .long, accessFlags := 26, slot := 5, constantValue := 0 }, { name := "negativeZeroDoubleBits", type := .long, accessFlags := 26, slot := 6, constantValue := 0 }, { name := "twoToTheDoubleScaleUp", type := .double, accessFlags := 8, slot := 7, constantValue := 0 }, { name := "twoToTheDoubleScaleDown", type := .double, accessFlags := 8, slot := 8, constantValue := 0 }, { name := "$assertionsDisabled", type := .boolean, accessFlags := 4120, slot := 9, constantValue := 0 }]
  methods := #[k7m0, k7m1]
  instanceTypes := #[]
  staticTypes := #[.double, .double, .double, .double, .double, .long, .long, .double, .double, .boolean]
  resolved := Array.replicate 460 none
  statics := none }

def pool8 : Array CpInfo := pool [(1, u "java/lang/Cloneable"), (0, .class_ 1), (0, u "java/lang/Object"), (0, .class_ 3)] 3

/-- java/lang/Cloneable -/
def k8 : Class := { plain "java/lang/Cloneable" (some 0) with
  accessFlags := 1537
  interfaces := #[]
  cf := some (fileOf pool8 2 #[] #[] 1537 4 #[] #[])
  fields := #[]
  methods := #[]
  instanceTypes := #[]
  staticTypes := #[]
  resolved := Array.replicate 8 none
  statics := none }

/-- the primitive byte -/
def k9 : Class := { plain "byte" none with kind := .primitive 'B', accessFlags := 0x411 }
/-- [B -/
def k10 : Class := { plain "[B" (some 0) with kind := .array 9 .byte, interfaces := #[8, 4], accessFlags := 1041 }

/-- the primitive int -/
def k11 : Class := { plain "int" none with kind := .primitive 'I', accessFlags := 0x411 }
/-- [I -/
def k12 : Class := { plain "[I" (some 0) with kind := .array 11 .int, interfaces := #[8, 4], accessFlags := 1041 }

def heap : Heap := #[{ cls := 6, slots := #[.ref 1, .ref 2, .ref 3, .ref 4, .ref 5, .ref 6, .null], vm := .statics 6 },
  { cls := 6, slots := #[.null, .int 0, .int 0, .null], vm := .none },
  { cls := 6, slots := #[.null, .int 1, .int 0, .null], vm := .none },
  { cls := 6, slots := #[.null, .int 2, .int 0, .null], vm := .none },
  { cls := 6, slots := #[.null, .int 3, .int 0, .null], vm := .none },
  { cls := 6, slots := #[.null, .int 4, .int 0, .null], vm := .none },
  { cls := 6, slots := #[.null, .int 5, .int 0, .null], vm := .none }]
def classes : Array Class := #[k0, k1, k2, k3, k4, k5, k6, k7, k8, k9, k10, k11, k12]
def interned : List (Array UInt16 × Addr) := []
def slotsUsed : Nat := 31
def theMethod : MethodId := ⟨1, 2⟩
def args0 : Array Value := #[.int 5, .int 7, .int 6]
def aboutOver (below : List Frame) : State where
  vm := { classes := classes, interned := interned.toArray }
  heap := heap
  slotsUsed := slotsUsed
  threads := #[{ frames := .invoking theMethod args0 :: below }]
def below0 : List Frame := [.native { method := ⟨0, 0⟩, args := #[] }]
def about1 : State := aboutOver below0
def p0 : Program := .bare "" "" ""
def e0 : Env := launch0.env 0 0 0
theorem w_frames : about1.frames = Frame.invoking theMethod args0 :: below0 := rfl
set_option maxRecDepth 65536 in
theorem w_args : argsFit about1.vm theMethod args0 = true := by decide +kernel
set_option maxRecDepth 65536 in
theorem w_heap : heapFits about1 = true := by decide +kernel
set_option maxRecDepth 65536 in
theorem w_runnable : about1.curStatus? = some .runnable := by decide +kernel
set_option maxRecDepth 65536 in
theorem w_alone : about1.alone = true := by decide +kernel
set_option maxRecDepth 65536 in
theorem w_named : about1.methodNamed? x = some theMethod := by decide +kernel
set_option maxRecDepth 65536 in
theorem w_hears : about1.hears theMethod below0 = true := by decide +kernel
set_option maxRecDepth 65536 in
theorem w_ripe : about1.ripe theMethod args0 below0 = true := by decide +kernel
theorem w_running : about1.status = .running := rfl
set_option maxRecDepth 65536 in
theorem w_room : about1.hasRoom e0.platform room_1 = true :=
  launch0.hasRoom_least _ room_1 (by decide +kernel) (by decide +kernel) (by decide +kernel) (by decide +kernel) (by decide +kernel) (by decide +kernel)
theorem allAtoms_all (ts : List Jvm.Cond) (a : Array Jvm.Value) (st : Jvm.State) : (allAtoms ts).before a st = ts.all (fun c => c.before a st) := by
  induction ts with
  | nil => rfl
  | cons c t ih =>
    show (Jvm.Cond.and c (allAtoms t)).before a st = _
    rw [Jvm.Cond.before_and, ih, List.all_cons]
def words1 : List Jvm.Cond := Jvm.Cond.code x code maxLocals ret :: tables_1
/-- a 'code' word, met by the world's own term for the bytes: nothing is compared byte by byte -/
theorem code_word {y : MethodName} {bytes : ByteArray} {mx : Nat} {rt : Option FieldType} {a : Array Value} {s : State} {m : MethodId} {meth : Method} {c : Code} (h1 : s.methodNamed? y = some m) (h2 : s.vm.method? m = some meth) (h3 : meth.code = some c) (h4 : c.code = bytes)
    (h5 : (c.maxLocals == mx && c.exceptionTable.isEmpty && decide (c.maxStack ≤ mostOperands) && decide (meth.sig.returnType = rt) && !meth.locks && decide (parseMethodDescriptor y.desc = some meth.sig)) = true) : (Jvm.Cond.code y bytes mx rt).before a s = true := by
  simp only [Bool.and_eq_true, beq_iff_eq, Bool.not_eq_true', decide_eq_true_eq] at h5
  obtain ⟨⟨⟨⟨⟨g1, g2⟩, g3⟩, g4⟩, g5⟩, g6⟩ := h5
  simp [Cond.before, Cond.holds, Cond.value, h1, h2, h3, h4, g1, g2, g3, g4, g5, g6]
def isCode : Jvm.Cond → Bool
  | .code _ _ _ _ => true
  | _ => false
theorem all_split {L : List Jvm.Cond} {P : Jvm.Cond → Bool} (h1 : L.all (fun c => isCode c || P c) = true) (h2 : ∀ c ∈ L.filter isCode, P c = true) : L.all P = true := by
  refine List.all_eq_true.mpr fun c hc => ?_
  have h := List.all_eq_true.mp h1 c hc
  rcases Bool.eq_false_or_eq_true (isCode c) with hi | hi
  · exact h2 c (List.mem_filter.mpr ⟨hc, hi⟩)
  · simpa [hi] using h
set_option maxRecDepth 65536 in
theorem w_c0 : (Jvm.Cond.code x code maxLocals ret).before args0 about1 = true := code_word (m := ⟨1, 2⟩) (meth := k1m2) (c := k1c2) (by decide +kernel) rfl rfl rfl (by decide +kernel)
set_option maxRecDepth 65536 in
theorem w_c1 : (Jvm.Cond.code ({ cls := "com/example/attribute_to_audience/attributetoaudience/model/OperatorIsEqualityPinLaw", name := "pick", desc := "(I)Lcom/example/attribute_to_audience/attributetoaudience/model/Operator;" } : Jvm.MethodName) method_2_code (2 : Nat) (Option.some (Jvm.ClassFile.FieldType.object "com/example/attribute_to_audience/attributetoaudience/model/Operator"))).before args0 about1 = true := code_word (m := ⟨1, 1⟩) (meth := k1m1) (c := k1c1) (by decide +kernel) rfl rfl rfl (by decide +kernel)
set_option maxRecDepth 65536 in
theorem w_c2 : (Jvm.Cond.code ({ cls := "java/lang/Math", name := "max", desc := "(II)I" } : Jvm.MethodName) jdk_29_method_65_code (2 : Nat) (Option.some Jvm.ClassFile.FieldType.int)).before args0 about1 = true := code_word (m := ⟨7, 1⟩) (meth := k7m1) (c := k7c1) (by decide +kernel) rfl rfl rfl (by decide +kernel)
set_option maxRecDepth 65536 in
theorem w_c3 : (Jvm.Cond.code ({ cls := "com/example/attribute_to_audience/attributetoaudience/model/Operator", name := "holds", desc := "(I)Z" } : Jvm.MethodName) prog_60_method_6_code (2 : Nat) (Option.some Jvm.ClassFile.FieldType.boolean)).before args0 about1 = true := code_word (m := ⟨6, 1⟩) (meth := k6m1) (c := k6c1) (by decide +kernel) rfl rfl rfl (by decide +kernel)
set_option maxRecDepth 65536 in
theorem w_c4 : (Jvm.Cond.code ({ cls := "java/lang/Enum", name := "ordinal", desc := "()I" } : Jvm.MethodName) jdk_37_method_2_code (1 : Nat) (Option.some Jvm.ClassFile.FieldType.int)).before args0 about1 = true := code_word (m := ⟨5, 0⟩) (meth := k5m0) (c := k5c0) (by decide +kernel) rfl rfl rfl (by decide +kernel)
set_option maxRecDepth 65536 in
theorem w_c5 : (Jvm.Cond.code ({ cls := "com/example/attribute_to_audience/attributetoaudience/model/Operator", name := "isEquality", desc := "()Z" } : Jvm.MethodName) prog_60_method_5_code (1 : Nat) (Option.some Jvm.ClassFile.FieldType.boolean)).before args0 about1 = true := code_word (m := ⟨6, 0⟩) (meth := k6m0) (c := k6c0) (by decide +kernel) rfl rfl rfl (by decide +kernel)
def codes1 : List Jvm.Cond := [Jvm.Cond.code x code maxLocals ret, Jvm.Cond.code ({ cls := "com/example/attribute_to_audience/attributetoaudience/model/OperatorIsEqualityPinLaw", name := "pick", desc := "(I)Lcom/example/attribute_to_audience/attributetoaudience/model/Operator;" } : Jvm.MethodName) method_2_code (2 : Nat) (Option.some (Jvm.ClassFile.FieldType.object "com/example/attribute_to_audience/attributetoaudience/model/Operator")), Jvm.Cond.code ({ cls := "java/lang/Math", name := "max", desc := "(II)I" } : Jvm.MethodName) jdk_29_method_65_code (2 : Nat) (Option.some Jvm.ClassFile.FieldType.int), Jvm.Cond.code ({ cls := "com/example/attribute_to_audience/attributetoaudience/model/Operator", name := "holds", desc := "(I)Z" } : Jvm.MethodName) prog_60_method_6_code (2 : Nat) (Option.some Jvm.ClassFile.FieldType.boolean), Jvm.Cond.code ({ cls := "java/lang/Enum", name := "ordinal", desc := "()I" } : Jvm.MethodName) jdk_37_method_2_code (1 : Nat) (Option.some Jvm.ClassFile.FieldType.int), Jvm.Cond.code ({ cls := "com/example/attribute_to_audience/attributetoaudience/model/Operator", name := "isEquality", desc := "()Z" } : Jvm.MethodName) prog_60_method_5_code (1 : Nat) (Option.some Jvm.ClassFile.FieldType.boolean)]
set_option maxRecDepth 65536 in
theorem codes_eq : words1.filter isCode = codes1 := rfl
theorem w_codes : ∀ c ∈ words1.filter isCode, c.before args0 about1 = true := by
  rw [codes_eq]
  intro c hc
  simp only [codes1, List.mem_cons, List.not_mem_nil, or_false] at hc
  rcases hc with rfl | rfl | rfl | rfl | rfl | rfl
  · exact w_c0
  · exact w_c1
  · exact w_c2
  · exact w_c3
  · exact w_c4
  · exact w_c5
set_option maxRecDepth 65536 in
theorem w_t1 : (words1.take 24).all (fun c => isCode c || c.before args0 about1) = true := by decide +kernel
set_option maxRecDepth 65536 in
theorem w_t2 : (words1.drop 24).all (fun c => isCode c || c.before args0 about1) = true := by decide +kernel
theorem w_tables : (allAtoms (Jvm.Cond.code x code maxLocals ret :: tables_1)).before args0 about1 = true := by
  rw [allAtoms_all]
  show words1.all (fun c => c.before args0 about1) = true
  refine all_split ?_ w_codes
  rw [← List.take_append_drop 24 words1, List.all_append, w_t1, w_t2]
  rfl
set_option maxRecDepth 65536 in
theorem w_case : (Jvm.Cond.and given_1 narrow_1).before args0 about1 = true := by decide +kernel
theorem w_applies : (headSpec (Jvm.Cond.code x code maxLocals ret :: tables_1) room_1).applies x e0.platform about1 = true :=
  (Spec.applies_iff w_frames).mpr ⟨w_running, w_runnable, w_alone, w_named, w_hears, w_ripe, w_room, w_tables⟩
theorem atStart : AtStart classFile x code maxLocals ret World_1 tables_1 room_1 Calls_1 rest_1 Pre_1 launch0 p0 e0 about1 theMethod args0 below0 :=
  ⟨lists_1, trivial, launch0.admits_env _ _ _, launch0.least_env, fairChoices_fair.cas, fairChoices_fair.clock, w_frames, w_args, w_heap, w_applies, trivial, trivial, w_case⟩
end start1
theorem witness_1 : WitnessClaimed_1 := ⟨start1.p0, start1.e0, start1.about1, start1.theMethod, start1.args0, start1.below0, start1.atStart⟩
end Jvm.Pilot.@@N@@
