import JvmDerived
import JvmDerived.Pilot.@@N@@Statement
import JvmDerived.Pilot.@@N@@Code
set_option linter.unusedVariables false
set_option linter.unusedSimpArgs false
@@BLOCK:NumsL.lean.txt@@
namespace Jvm.RoadKit
open Sem ClassFile Op Lib Jvm.Stand Jvm.Free Jvm.LawKit
section New
variable {p : Program} {l : Launch} {e : Env} {R : Room} {s : State} {m : MethodId} {args : Array Value} {below : List Frame} {meth : Method} {c : Code} {T : State} {locs : List Loc} {cells slots : Nat}
theorem retI (X : Stand p l e R s m args below meth c T locs cells slots) (hx : p.tables.exec = Jvm.exec) {pc : Nat} {Ls : Array Slot} {z : Int32} {rest : List Value} (hret : meth.sig.returnType = some .int) (hd : decode c.code pc = .ok (.ireturn, 1)) {fs : List Frame}
    (hl : ∀ (f : JFrame) (acts : List Action), f.method = m → f.locked = none → f.entered = [] → (doReturn e (T.setTop f) acts (some (.int z))).1 = T.setFrames fs) : Steps p.tables e below (T.setTop (mkF m pc Ls (.int z :: rest))) (T.setFrames fs) := by
  have hm' : T.vm.method? m = some meth := X.method'
  have hn : narrow .int (.int z) = .int z := rfl
  show Steps p.tables e below (T.setTop { method := m, pc := pc, locals := Ls, stack := _ :: rest, locked := none }) _
  jvm_step X.here [X.here.top, hx, hd, hm', hret, hn]
  first | (intro acts; rw [hl _ acts rfl rfl rfl]) | rw [hl _ _ rfl rfl rfl]
  exact Steps.refl _
end New
end Jvm.RoadKit
namespace Jvm.OwnRuns
open Jvm Sem ClassFile Op Lib Jvm.Stand Jvm.Free Jvm.LawKit Jvm.RoadKit
/-- from the state T the invocation comes to its end, and there Φ holds -/
def Runs (tb : Tables) (e : Env) (below : List Frame) (Φ : Outcome → State → Prop) (T : State) : Prop := ∃ s₂ o, Steps tb e below T s₂ ∧ s₂.status = .running ∧ Ended s₂ below o ∧ Φ o s₂
abbrev Phi (s : State) (Q : Option Value → Heap → List Loc → Prop) (k n : Nat) (o : Outcome) (U' : State) : Prop := ∃ v L, o = .returned v ∧ Q v U'.heap L ∧ FrameEnd s o U' L k n
theorem Runs.st {tb : Tables} {e : Env} {below : List Frame} {Φ : Outcome → State → Prop} {T T' : State} (h : ∀ t, Steps tb e below T' t → Steps tb e below T t) (r : Runs tb e below Φ T') : Runs tb e below Φ T := by
  obtain ⟨a, o, h1, h2⟩ := r
  exact ⟨a, o, h a h1, h2⟩
theorem Runs.tr {tb : Tables} {e : Env} {below : List Frame} {Φ : Outcome → State → Prop} {T T' : State} (h : Steps tb e below T T') (r : Runs tb e below Φ T') : Runs tb e below Φ T := Runs.st (fun _ k => h.trans k) r
section Laws
variable {p : Program} {l : Launch} {e : Env} {R : Room} {s : State} {m : MethodId} {args : Array Value} {below : List Frame} {meth : Method} {c : Code} {T : State} {locs : List Loc} {cells slots : Nat}
theorem Runs.ret (X : Stand p l e R s m args below meth c T locs cells slots) (hlk : meth.locks = false) {v : Option Value} (hv : meth.sig.returnType = none → v = none) {Q : Option Value → Heap → List Loc → Prop} {k n : Nat} (hk : cells ≤ k) (hn : slots ≤ n) (hQ : Q v T.heap locs) {T0 : State}
    (hst : ∀ fs : List Frame, (∀ (f : JFrame) (acts : List Action), f.method = m → f.locked = none → f.entered = [] → (doReturn e (T.setTop f) acts v).1 = T.setFrames fs) → Steps p.tables e below T0 (T.setFrames fs)) : Runs p.tables e below (Phi s Q k n) T0 := by
  obtain ⟨fs, hr, hrun, hended, hW, hsame⟩ := X.leave hv hlk
  exact ⟨_, _, hst fs hr, hrun, hended, _, _, rfl, hQ, ⟨_, rfl⟩, hW, hsame.mono hk hn⟩
theorem wider (X : Stand p l e R s m args below meth c T locs cells slots) {c' s' : Nat} (hc : cells ≤ c') (hs : slots ≤ s') : Stand p l e R s m args below meth c T locs c' s' := { X with same := X.same.mono hc hs }
abbrev PhiW (s : State) (Q : Option Value → Heap → List Loc → Prop) (k n : Nat) (o : Outcome) (U' : State) : Prop := ∃ v L, o = .returned v ∧ Q v U'.heap L ∧ ReturnedEndW s o U' L k n
theorem Runs.retW {vm₁ : Vm} (X : Stand p l e R (s.setVm vm₁) m args below meth c T locs cells slots) {n1 : Nat} (hS : s.Since vm₁ n1) (hk1 : n1 ≤ T.heap.size) (hlk : meth.locks = false) {v : Option Value} (hv : meth.sig.returnType = none → v = none) {Q : Option Value → Heap → List Loc → Prop} {k n : Nat} (hk : cells ≤ k) (hn : slots ≤ n) (hQ : Q v T.heap locs) {T0 : State}
    (hst : ∀ fs : List Frame, (∀ (f : JFrame) (acts : List Action), f.method = m → f.locked = none → f.entered = [] → (doReturn e (T.setTop f) acts v).1 = T.setFrames fs) → Steps p.tables e below T0 (T.setFrames fs)) : Runs p.tables e below (PhiW s Q k n) T0 := by
  obtain ⟨fs, hr, hrun, hended, hW⟩ := (wider X hk hn).leaveW hS hk1 hv hlk
  exact ⟨_, _, hst fs hr, hrun, hended, _, _, rfl, hQ, hW⟩
abbrev PhiH (Z : State) (EL : List (String × Nat)) (s : State) (Q : Option Value → Heap → List Loc → Prop) (k n : Nat) (o : Outcome) (U' : State) : Prop := ∃ v L, o = .returned v ∧ Q v U'.heap L ∧ CHr Z EL s.vm s.heap U'.vm U'.heap ∧ ReturnedEndW s o U' L k n
theorem Runs.retH {Z : State} {EL : List (String × Nat)} {vm₁ : Vm} (X : Stand p l e R (s.setVm vm₁) m args below meth c T locs cells slots) {n1 : Nat} (hS : s.Since vm₁ n1) (hk1 : n1 ≤ T.heap.size) (hlk : meth.locks = false) {v : Option Value} (hv : meth.sig.returnType = none → v = none) {Q : Option Value → Heap → List Loc → Prop} {k n : Nat} (hk : cells ≤ k) (hn : slots ≤ n) (hQ : Q v T.heap locs) (hC : CHr Z EL s.vm s.heap T.vm T.heap) {T0 : State}
    (hst : ∀ fs : List Frame, (∀ (f : JFrame) (acts : List Action), f.method = m → f.locked = none → f.entered = [] → (doReturn e (T.setTop f) acts v).1 = T.setFrames fs) → Steps p.tables e below T0 (T.setFrames fs)) : Runs p.tables e below (PhiH Z EL s Q k n) T0 := by
  obtain ⟨fs, hr, hrun, hended, hW⟩ := (wider X hk hn).leaveW hS hk1 hv hlk
  exact ⟨_, _, hst fs hr, hrun, hended, _, _, rfl, hQ, hC, hW⟩
end Laws
section Facts
variable {Z : State} {h h' : Heap} {a : Addr} {C n d : String} {v : Value} {bo : Bool} {ws : List Addr}
theorem Ins_keep (F : Ins Z h a C bo) (K : Keep h h' ws) : Ins Z h' a C bo := by
  obtain ⟨cell, cT, h1, h2, h3⟩ := F
  obtain ⟨c', e1, e2, e3, -⟩ := K.2.2 _ _ h1
  exact ⟨c', cT, e1, h2, by rw [e2, e3]; exact h3⟩
theorem narrow_ref {t : FieldType} {v : Value} (h : v.isRef = true) : narrow t v = v := by rcases ref_cases h with rfl | ⟨_, rfl⟩ <;> cases t <;> rfl
end Facts
end Jvm.OwnRuns
namespace Jvm.OwnRuns
open Jvm Sem ClassFile Op Lib Jvm.Stand Jvm.Free Jvm.LawKit Jvm.RoadKit
section Words
variable {args : Array Value} {s : State} {t : Term}
theorem val_int {k : Int32} (h : (Cond.eq t (.int k)).value args s none s [] = some true) : t.eval args s none [] s = some (.int k) := Cond.eq_int (Cond.before_iff.mpr h) rfl
theorem the_static {C n d K : String} (h : (Cond.exactly (.static C n d) K).value args s none s [] = some true) (h1 : (Cond.initialized C).before args s = true) (h2 : (Cond.laysStatic C n d).before args s = true) :
    ∃ a, (Term.static C n d).eval args s none [] s = some (.ref a) ∧ Sta s s.heap C n d (.ref a) ∧ Exa s s.heap a K := by
  obtain ⟨a, e⟩ := exa_v h
  exact ⟨a, e, Sta.start e (Or.inr ⟨h1, h2⟩), Exa.start e h⟩
theorem the_int {C n d : String} {a : Addr} {k : Int32} (e : t.eval args s none [] s = some (.ref a)) (h : (Cond.eq (.field t C n d) (.int k)).value args s none s [] = some true) : Fld s s.heap a C n d (.int k) :=
  Fld.start ((fld_at e).symm.trans (val_int h))
theorem the_ref {C n d K : String} {a : Addr} (e : t.eval args s none [] s = some (.ref a)) (h : (Cond.exactly (.field t C n d) K).value args s none s [] = some true) :
    ∃ b, (Term.field t C n d).eval args s none [] s = some (.ref b) ∧ Fld s s.heap a C n d (.ref b) ∧ Exa s s.heap b K := by
  obtain ⟨b, eb⟩ := exa_v h
  exact ⟨b, eb, Fld.start ((fld_at e).symm.trans eb), Exa.start eb h⟩
theorem the_arr {C n d : String} {ty : FieldType} {a : Addr} (e : t.eval args s none [] s = some (.ref a)) (h : (Cond.arrayOf (.field t C n d) ty).value args s none s [] = some true) :
    ∃ b cl, (Term.field t C n d).eval args s none [] s = some (.ref b) ∧ Fld s s.heap a C n d (.ref b) ∧ Arr s s.heap b cl ty := by
  obtain ⟨b, eb⟩ := arr_v h
  obtain ⟨cl, A⟩ := Arr.start eb h
  exact ⟨b, cl, eb, Fld.start ((fld_at e).symm.trans eb), A⟩
theorem the_len {b : Addr} {cl : Cell} {ty : FieldType} {z : Int32} (e : t.eval args s none [] s = some (.ref b)) (A : Arr s s.heap b cl ty) (h : (Cond.eq (.length t) (.int z)).value args s none s [] = some true) : cl.slots.size < 2 ^ 31 ∧ cl.slots.size.toInt32 = z := by
  have hv := val_int h
  obtain ⟨x, c', e1, e2, -⟩ := Term.length_spec hv
  cases e.symm.trans e1
  have e3 := A.fin (Vm.Alike.refl _)
  cases e2.symm.trans e3
  have h31 := SBG.length_lt e1 e2 hv
  exact ⟨h31, Value.int.inj (Option.some.inj ((len_f e e3 h31).symm.trans hv))⟩
theorem the_elem {b : Addr} {cl : Cell} {ty : FieldType} {j k : Int32} (e : t.eval args s none [] s = some (.ref b)) (A : Arr s s.heap b cl ty) (h : (Cond.eq (.elem t (.int j)) (.int k)).value args s none s [] = some true) : cl.slots[j.toNatClampNeg]? = some (.int k) :=
  (elem_in (val_int h) e rfl A.1).2
end Words
end Jvm.OwnRuns
namespace Jvm.OwnRuns
open Jvm Sem ClassFile Op Lib Jvm.Stand Jvm.Free Jvm.LawKit Jvm.RoadKit
theorem fld_one {Z : State} {h : Heap} {a b d : Addr} {C n t : String} (F : Fld Z h a C n t (.ref b)) (G : Fld Z h a C n t (.ref d)) : b = d := by
  obtain ⟨c1, _, _, _, f1, h1, h2, -, -, -, -, h7⟩ := F
  obtain ⟨c2, _, _, _, f2, g1, g2, -, -, -, -, g7⟩ := G
  cases h1.symm.trans g1; cases h2.symm.trans g2
  exact Value.ref.inj (Option.some.inj (h7.symm.trans g7))
theorem arv_len {Z : State} {h : Heap} {a : Addr} {k k' : ClassId} {ty ty' : FieldType} {z z' : Int32} {vs vs' : List Value} {d d' : Value} (F : Arv Z h a k ty z vs d) (G : Arv Z h a k' ty' z' vs' d') : z = z' := by
  obtain ⟨c1, A1, -, S1, M1, -⟩ := F
  obtain ⟨c2, A2, -, S2, M2, -⟩ := G
  cases A1.1.symm.trans A2.1
  rw [← len_of S1 M1, ← len_of S2 M2]
end Jvm.OwnRuns
namespace Jvm.Pilot.@@N@@
open Jvm Jvm.ClassFile Sem Op Lib Jvm.Free Jvm.Stand Jvm.LawKit Jvm.RoadKit Bundle Jvm.OwnRuns Jvm.Pilot.@@N@@.Jvm.D
theorem own_nar2 (x : Int32) : nar .char (nar .char x) = nar .char x := by
  simp only [nar]
  apply Int32.toInt_inj.mp
  have a := c_i2c x
  have b := c_i2c (x.toUInt32.toUInt16.toUInt32.toInt32)
  omega
def Q_rmLat (Z : State) (a : Addr) (zc : Int32) (h0 : Heap) (n0 : Nat) : Option Value → Heap → List Loc → Prop := (fun v h L => v = some (.int 1) ∧ Fr n0 L ∧ h = h0)
theorem pn_java_lang_String : plainName "java/lang/String" = true := by first | (simp [plainName, overriddenIn]; done) | decide +kernel
theorem ef_jdk_42_method_154_R (m : MethodId) (x0 : Addr)  : entryFrame m #[(.ref x0)] 1 = mkF m 0 #[.val (.ref x0)] [] := by first | (simp [entryFrame, mkF, argsToLocals, Value.category]; done) | rfl
theorem d_jdk_42_method_154_0 : decode jdk_42_method_154_code 0 = .ok (.getstatic 38, 3) := by decide +kernel
theorem d_jdk_42_method_154_3 : decode jdk_42_method_154_code 3 = .ok (.ifCond .eq 14, 3) := by decide +kernel
theorem d_jdk_42_method_154_6 : decode jdk_42_method_154_code 6 = .ok (.aload_n 0, 1) := by decide +kernel
theorem d_jdk_42_method_154_7 : decode jdk_42_method_154_code 7 = .ok (.getfield 15, 3) := by decide +kernel
theorem d_jdk_42_method_154_10 : decode jdk_42_method_154_code 10 = .ok (.ifCond .ne 7, 3) := by decide +kernel
theorem d_jdk_42_method_154_13 : decode jdk_42_method_154_code 13 = .ok (.iconst 1, 1) := by decide +kernel
theorem d_jdk_42_method_154_14 : decode jdk_42_method_154_code 14 = .ok (.goto 4, 3) := by decide +kernel
theorem d_jdk_42_method_154_18 : decode jdk_42_method_154_code 18 = .ok (.ireturn, 1) := by decide +kernel
set_option maxRecDepth 65536 in
set_option maxHeartbeats 40000000 in
theorem rmLat (l : Launch) (Z : State) (a0 : Array Value) (hw : ∀ d ∈ tables_1, d.before a0 Z = true) (ws : List Jvm.Cond) (a : Addr) (zc : Int32) (h0 : Heap) (n0 : Nat) (Z0 : n0 ≤ h0.size) (Sc : Sta Z h0 "java/lang/String" "COMPACT_STRINGS" "Z" (.int zc)) (hzc : ¬ zc = 0) (Fc : Fld Z h0 a "java/lang/String" "coder" "B" (.int (0 : Int32))) :
    MetFree l (⟨"java/lang/String", "isLatin1", "()Z"⟩ : MethodName) (head1 (Jvm.Cond.code (⟨"java/lang/String", "isLatin1", "()Z"⟩ : MethodName) jdk_42_method_154_code 1 (some .boolean) :: ws) ({ frames := 0, cells := 0, slots := 0, locals := 0 } : Room)) (fun ar_ U => ar_ = #[(.ref a)] ∧ Z.Warmed39 U.vm ∧ U.heap = h0) (fun _ _ _ _ _ => True) (fun _ U o U' => Phi U (Q_rmLat Z a zc h0 n0) ({ frames := 0, cells := 0, slots := 0, locals := 0 } : Room).cells ({ frames := 0, cells := 0, slots := 0, locals := 0 } : Room).slots o U') := by
  refine MetFree.of_bodySF (plainFor_of_name pn_java_lang_String) hisR ?_
  intro p e s m args below meth c s₁ Bd hml0 hP hK
  obtain ⟨rfl, hZ, hh⟩ := hP
  have hx := Bd.exec
  have hby := Bd.bytes
  have hlk := Bd.notSynchronized
  have hml : c.maxLocals = 1 := hml0
  have hown : s.vm.findClass "java/lang/String" = some m.cls := findClass_of_methodNamed Bd.named
  have hown0 := hown
  have hnm := (name_of_methodNamed Bd.named Bd.method).1
  have hret := Bd.returns
  have X0 : Stand p l e ({ frames := 0, cells := 0, slots := 0, locals := 0 } : Room) s m #[(.ref a)] below meth c s₁ [] 0 0 := Stand.of_body Bd
  have e0 : s₁.heap = h0 := by rw [← hh, Bd.state]; rfl
  have N0 := Fr.nil n0
  have sz := Z0
  have K := Keep.refl h0 []
  show Runs p.tables e below (Phi s (Q_rmLat Z a zc h0 n0) ({ frames := 0, cells := 0, slots := 0, locals := 0 } : Room).cells ({ frames := 0, cells := 0, slots := 0, locals := 0 } : Room).slots) _
  refine Runs.st (fun t' k' => castTop (ef_jdk_42_method_154_R m a ) k') ?_
  show Runs p.tables e below _ (s₁.setTop (mkF m 0 #[.val (.ref a)] []))
  obtain ⟨T1_, X1_, e1_, st1_⟩ := getS2 X0 hx hZ hown (host := "") (Or.inl (hw _ (List.mem_of_getElem? (i := 41) rfl))) Via.refl e0 Sc (g := (mkF m 0 #[.val (.ref a)] [])) rfl (hb hby d_jdk_42_method_154_0)
  refine Runs.st (st1_) ?_
  show Runs p.tables e below _ (T1_.setTop (mkF m 3 #[.val (.ref a)] [(.int zc)]))
  refine Runs.st (fun t' k' => XS.ifNo X1_.here hx rfl (hb hby d_jdk_42_method_154_3) rfl ((if0 _ _).trans (feq hzc).1) k') ?_
  show Runs p.tables e below _ (T1_.setTop (mkF m 6 #[.val (.ref a)] []))
  refine Runs.st (fun t' k' => XS.aloadN X1_.here hx rfl (hb hby d_jdk_42_method_154_6) rfl rfl k') ?_
  show Runs p.tables e below _ (T1_.setTop (mkF m 7 #[.val (.ref a)] [(.ref a)]))
  obtain ⟨T2_, X2_, e2_, st2_⟩ := getF X1_ hx hZ hown (host := "") (Or.inl (hw _ (List.mem_of_getElem? (i := 42) rfl))) Via.refl e1_ Fc (g := (mkF m 7 #[.val (.ref a)] [(.ref a)])) rfl rfl (hb hby d_jdk_42_method_154_7)
  refine Runs.st (st2_) ?_
  show Runs p.tables e below _ (T2_.setTop (mkF m 10 #[.val (.ref a)] [(.int (0 : Int32))]))
  refine Runs.st (fun t' k' => XS.ifNo X2_.here hx rfl (hb hby d_jdk_42_method_154_10) rfl ((if0 _ _).trans (teq rfl).2) k') ?_
  show Runs p.tables e below _ (T2_.setTop (mkF m 13 #[.val (.ref a)] []))
  refine Runs.st (fun t' k' => XS.iconst X2_.here hx rfl (hb hby d_jdk_42_method_154_13) k') ?_
  show Runs p.tables e below _ (T2_.setTop (mkF m 14 #[.val (.ref a)] [(.int (1 : Int32))]))
  refine Runs.st (fun t' k' => XS.goto X2_.here hx rfl (pc0 := 14) (pc' := 18) rfl (hb hby d_jdk_42_method_154_14) (by decide) (by decide) k') ?_
  show Runs p.tables e below _ (T2_.setTop (mkF m 18 #[.val (.ref a)] [(.int (1 : Int32))]))
  refine Runs.ret X2_ hlk (v := (some (.int (1 : Int32)))) (fun h => by rw [hret] at h; cases h) (by decide) (by decide) ?_ (fun fs hr => retN X2_ hx (t := .boolean) hret (by simp) (hb hby d_jdk_42_method_154_18) hr)
  try rw [e2_]
  exact ⟨rfl, N0, rfl⟩
def Q_rmPre (Z : State) (i : Int32) (n : Int32) (f : Value)  (h0 : Heap) (n0 : Nat) : Option Value → Heap → List Loc → Prop := (fun v h L => v = some (.int i) ∧ Fr n0 L ∧ h = h0)
theorem pn_jdk_internal_util_Preconditions : plainName "jdk/internal/util/Preconditions" = true := by first | (simp [plainName, overriddenIn]; done) | decide +kernel
theorem ef_jdk_41_method_11_IIV (m : MethodId) (x0 : Int32) (x1 : Int32) (x2 : Value) (hv2 : x2.isRef = true) : entryFrame m #[(.int x0), (.int x1), x2] 3 = mkF m 0 #[.val (.int x0), .val (.int x1), .val x2] [] := by rcases ref_cases hv2 with rfl | ⟨_, rfl⟩ <;> first | (simp [entryFrame, mkF, argsToLocals, Value.category]; done) | rfl
theorem d_jdk_41_method_11_0 : decode jdk_41_method_11_code 0 = .ok (.iload_n 0, 1) := by decide +kernel
theorem d_jdk_41_method_11_1 : decode jdk_41_method_11_code 1 = .ok (.ifCond .lt 8, 3) := by decide +kernel
theorem d_jdk_41_method_11_4 : decode jdk_41_method_11_code 4 = .ok (.iload_n 0, 1) := by decide +kernel
theorem d_jdk_41_method_11_5 : decode jdk_41_method_11_code 5 = .ok (.iload_n 1, 1) := by decide +kernel
theorem d_jdk_41_method_11_6 : decode jdk_41_method_11_code 6 = .ok (.if_icmp .lt 10, 3) := by decide +kernel
theorem d_jdk_41_method_11_16 : decode jdk_41_method_11_code 16 = .ok (.iload_n 0, 1) := by decide +kernel
theorem d_jdk_41_method_11_17 : decode jdk_41_method_11_code 17 = .ok (.ireturn, 1) := by decide +kernel
set_option maxRecDepth 65536 in
set_option maxHeartbeats 40000000 in
theorem rmPre (l : Launch) (Z : State) (a0 : Array Value) (hw : ∀ d ∈ tables_1, d.before a0 Z = true) (ws : List Jvm.Cond) (i : Int32) (n : Int32) (f : Value)  (h0 : Heap) (n0 : Nat) (Z0 : n0 ≤ h0.size) (hf : f.isRef = true) (h1 : ¬ i < 0) (h2 : i < n) :
    MetFree l (⟨"jdk/internal/util/Preconditions", "checkIndex", "(IILjava/util/function/BiFunction;)I"⟩ : MethodName) (head1 (Jvm.Cond.code (⟨"jdk/internal/util/Preconditions", "checkIndex", "(IILjava/util/function/BiFunction;)I"⟩ : MethodName) jdk_41_method_11_code 3 (some .int) :: ws) ({ frames := 0, cells := 0, slots := 0, locals := 0 } : Room)) (fun ar_ U => ar_ = #[(.int i), (.int n), f] ∧ Z.Warmed39 U.vm ∧ U.heap = h0) (fun _ _ _ _ _ => True) (fun _ U o U' => Phi U (Q_rmPre Z i n f h0 n0) ({ frames := 0, cells := 0, slots := 0, locals := 0 } : Room).cells ({ frames := 0, cells := 0, slots := 0, locals := 0 } : Room).slots o U') := by
  refine MetFree.of_bodySF (plainFor_of_name pn_jdk_internal_util_Preconditions) hisR ?_
  intro p e s m args below meth c s₁ Bd hml0 hP hK
  obtain ⟨rfl, hZ, hh⟩ := hP
  have hx := Bd.exec
  have hby := Bd.bytes
  have hlk := Bd.notSynchronized
  have hml : c.maxLocals = 3 := hml0
  have hown : s.vm.findClass "jdk/internal/util/Preconditions" = some m.cls := findClass_of_methodNamed Bd.named
  have hown0 := hown
  have hnm := (name_of_methodNamed Bd.named Bd.method).1
  have hret := Bd.returns
  have X0 : Stand p l e ({ frames := 0, cells := 0, slots := 0, locals := 0 } : Room) s m #[(.int i), (.int n), f] below meth c s₁ [] 0 0 := Stand.of_body Bd
  have e0 : s₁.heap = h0 := by rw [← hh, Bd.state]; rfl
  have N0 := Fr.nil n0
  have sz := Z0
  have K := Keep.refl h0 []
  show Runs p.tables e below (Phi s (Q_rmPre Z i n f h0 n0) ({ frames := 0, cells := 0, slots := 0, locals := 0 } : Room).cells ({ frames := 0, cells := 0, slots := 0, locals := 0 } : Room).slots) _
  refine Runs.st (fun t' k' => castTop (ef_jdk_41_method_11_IIV m i n f (by first | assumption | rfl)) k') ?_
  show Runs p.tables e below _ (s₁.setTop (mkF m 0 #[.val (.int i), .val (.int n), .val f] []))
  refine Runs.st (fun t' k' => XS.iloadN X0.here hx rfl (hb hby d_jdk_41_method_11_0) rfl k') ?_
  show Runs p.tables e below _ (s₁.setTop (mkF m 1 #[.val (.int i), .val (.int n), .val f] [(.int i)]))
  refine Runs.st (fun t' k' => XS.ifNo X0.here hx rfl (hb hby d_jdk_41_method_11_1) rfl ((if0 _ _).trans (flt h1).1) k') ?_
  show Runs p.tables e below _ (s₁.setTop (mkF m 4 #[.val (.int i), .val (.int n), .val f] []))
  refine Runs.st (fun t' k' => XS.iloadN X0.here hx rfl (hb hby d_jdk_41_method_11_4) rfl k') ?_
  show Runs p.tables e below _ (s₁.setTop (mkF m 5 #[.val (.int i), .val (.int n), .val f] [(.int i)]))
  refine Runs.st (fun t' k' => XS.iloadN X0.here hx rfl (hb hby d_jdk_41_method_11_5) rfl k') ?_
  show Runs p.tables e below _ (s₁.setTop (mkF m 6 #[.val (.int i), .val (.int n), .val f] [(.int n), (.int i)]))
  refine Runs.st (fun t' k' => XS.icmpYes X0.here hx rfl (pc0 := 6) (pc' := 16) rfl (hb hby d_jdk_41_method_11_6) rfl (tlt h2).1 (by decide) (by decide) k') ?_
  show Runs p.tables e below _ (s₁.setTop (mkF m 16 #[.val (.int i), .val (.int n), .val f] []))
  refine Runs.st (fun t' k' => XS.iloadN X0.here hx rfl (hb hby d_jdk_41_method_11_16) rfl k') ?_
  show Runs p.tables e below _ (s₁.setTop (mkF m 17 #[.val (.int i), .val (.int n), .val f] [(.int i)]))
  refine Runs.ret X0 hlk (v := (some (.int i))) (fun h => by rw [hret] at h; cases h) (by decide) (by decide) ?_ (fun fs hr => retI X0 hx hret (hb hby d_jdk_41_method_11_17) hr)
  try rw [e0]
  exact ⟨rfl, N0, rfl⟩
def Q_rmChk (Z : State) (i : Int32) (n : Int32) (f : Value) (h0 : Heap) (n0 : Nat) : Option Value → Heap → List Loc → Prop := (fun v h L => v = none ∧ Fr n0 L ∧ h = h0)
theorem ef_jdk_42_method_155_II (m : MethodId) (x0 : Int32) (x1 : Int32)  : entryFrame m #[(.int x0), (.int x1)] 2 = mkF m 0 #[.val (.int x0), .val (.int x1)] [] := by first | (simp [entryFrame, mkF, argsToLocals, Value.category]; done) | rfl
theorem d_jdk_42_method_155_0 : decode jdk_42_method_155_code 0 = .ok (.iload_n 0, 1) := by decide +kernel
theorem d_jdk_42_method_155_1 : decode jdk_42_method_155_code 1 = .ok (.iload_n 1, 1) := by decide +kernel
theorem d_jdk_42_method_155_2 : decode jdk_42_method_155_code 2 = .ok (.getstatic 1053, 3) := by decide +kernel
theorem pd__28IILjava_2futil_2ffunction_2fBiFunction_3b_29I : parseMethodDescriptor "(IILjava/util/function/BiFunction;)I" = some ⟨[.int, .int, (.object "java/util/function/BiFunction")], some .int⟩ := by decide +kernel
theorem d_jdk_42_method_155_5 : decode jdk_42_method_155_code 5 = .ok (.invokestatic 1059, 3) := by decide +kernel
theorem d_jdk_42_method_155_8 : decode jdk_42_method_155_code 8 = .ok (.pop, 1) := by decide +kernel
theorem d_jdk_42_method_155_9 : decode jdk_42_method_155_code 9 = .ok (.return_, 1) := by decide +kernel
set_option maxRecDepth 65536 in
set_option maxHeartbeats 40000000 in
theorem rmChk (l : Launch) (Z : State) (a0 : Array Value) (hw : ∀ d ∈ tables_1, d.before a0 Z = true) (ws : List Jvm.Cond) (i : Int32) (n : Int32) (f : Value) (h0 : Heap) (n0 : Nat) (Z0 : n0 ≤ h0.size) (Sf : Sta Z h0 "jdk/internal/util/Preconditions" "SIOOBE_FORMATTER" "Ljava/util/function/BiFunction;" f) (hf : f.isRef = true) (h1 : ¬ i < 0) (h2 : i < n) :
    MetFree l (⟨"java/lang/String", "checkIndex", "(II)V"⟩ : MethodName) (head1 (Jvm.Cond.code (⟨"java/lang/String", "checkIndex", "(II)V"⟩ : MethodName) jdk_42_method_155_code 2 none :: ws) ({ frames := 1, cells := 0, slots := 0, locals := 14 } : Room)) (fun ar_ U => ar_ = #[(.int i), (.int n)] ∧ Z.Warmed39 U.vm ∧ U.heap = h0) (fun _ _ _ _ _ => True) (fun _ U o U' => Phi U (Q_rmChk Z i n f h0 n0) ({ frames := 1, cells := 0, slots := 0, locals := 14 } : Room).cells ({ frames := 1, cells := 0, slots := 0, locals := 14 } : Room).slots o U') := by
  refine MetFree.of_bodySF (plainFor_of_name pn_java_lang_String) hisR ?_
  intro p e s m args below meth c s₁ Bd hml0 hP hK
  obtain ⟨rfl, hZ, hh⟩ := hP
  have hx := Bd.exec
  have hby := Bd.bytes
  have hlk := Bd.notSynchronized
  have hml : c.maxLocals = 2 := hml0
  have hown : s.vm.findClass "java/lang/String" = some m.cls := findClass_of_methodNamed Bd.named
  have hown0 := hown
  have hnm := (name_of_methodNamed Bd.named Bd.method).1
  have hret := Bd.returns
  have X0 : Stand p l e ({ frames := 1, cells := 0, slots := 0, locals := 14 } : Room) s m #[(.int i), (.int n)] below meth c s₁ [] 0 0 := Stand.of_body Bd
  have e0 : s₁.heap = h0 := by rw [← hh, Bd.state]; rfl
  have N0 := Fr.nil n0
  have sz := Z0
  have K := Keep.refl h0 []
  show Runs p.tables e below (Phi s (Q_rmChk Z i n f h0 n0) ({ frames := 1, cells := 0, slots := 0, locals := 14 } : Room).cells ({ frames := 1, cells := 0, slots := 0, locals := 14 } : Room).slots) _
  refine Runs.st (fun t' k' => castTop (ef_jdk_42_method_155_II m i n ) k') ?_
  show Runs p.tables e below _ (s₁.setTop (mkF m 0 #[.val (.int i), .val (.int n)] []))
  refine Runs.st (fun t' k' => XS.iloadN X0.here hx rfl (hb hby d_jdk_42_method_155_0) rfl k') ?_
  show Runs p.tables e below _ (s₁.setTop (mkF m 1 #[.val (.int i), .val (.int n)] [(.int i)]))
  refine Runs.st (fun t' k' => XS.iloadN X0.here hx rfl (hb hby d_jdk_42_method_155_1) rfl k') ?_
  show Runs p.tables e below _ (s₁.setTop (mkF m 2 #[.val (.int i), .val (.int n)] [(.int n), (.int i)]))
  obtain ⟨T1_, X1_, e1_, st1_⟩ := getS2 X0 hx hZ hown (host := "") (Or.inl (hw _ (List.mem_of_getElem? (i := 53) rfl))) Via.refl e0 Sf (g := (mkF m 2 #[.val (.int i), .val (.int n)] [(.int n), (.int i)])) rfl (hb hby d_jdk_42_method_155_2)
  refine Runs.st (st1_) ?_
  show Runs p.tables e below _ (T1_.setTop (mkF m 5 #[.val (.int i), .val (.int n)] [f, (.int n), (.int i)]))
  obtain ⟨_, _, ⟨T2_, L2_, k2_, n2_⟩, -, X2_, ⟨Lc2_, hQ2_, l2_, y2_, z2_⟩, st2_⟩ := Jvm.LawKit.callS X1_ hx (y := (⟨"jdk/internal/util/Preconditions", "checkIndex", "(IILjava/util/function/BiFunction;)I"⟩ : MethodName)) hown (mvT hZ (hw _ (List.mem_of_getElem? (i := 55) rfl))) (mvT hZ (hw _ (List.mem_of_getElem? (i := 56) rfl))) (mvT hZ (hw _ (List.mem_of_getElem? (i := 54) rfl))) (mvT hZ (hw _ (List.mem_of_getElem? (i := 57) rfl))) (by decide) (backOf (W := 0) (rmPre l Z a0 hw [] i n f h0 n0 sz hf h1 h2) hZ (hw _ (List.mem_of_getElem? (i := 57) rfl)) (hw _ (List.mem_of_getElem? (i := 54) rfl)) (by decide) (by decide)) (g := (mkF m 5 #[.val (.int i), .val (.int n)] [f, (.int n), (.int i)])) rfl (by rw [hml]; rfl) (argsL := [(.int i), (.int n), f]) (rest := []) (lenOf pd__28IILjava_2futil_2ffunction_2fBiFunction_3b_29I rfl) rfl (by show 2 * 0 + _ ≤ _; exact Nat.le_of_eq rfl) (hb hby d_jdk_42_method_155_5) (fun _ _ => ⟨rfl, e1_, (by decide : 0 + 0 ≤ _), (by decide : 0 + 0 ≤ _)⟩)
  dsimp only [Pt.U, Pt.locs, Pt.cells, Pt.slots] at X2_ l2_ y2_ z2_ st2_ hQ2_
  subst l2_ y2_ z2_
  obtain ⟨rfl, N2_q, e2_⟩ := hQ2_
  have N2_ := Fr.app N0 N2_q
  refine Runs.st (st2_) ?_
  replace X2_ := wider X2_ (c' := 0) (s' := 0) (by decide) (by decide)
  show Runs p.tables e below _ (T2_.setTop (mkF m 8 #[.val (.int i), .val (.int n)] [(.int i)]))
  refine Runs.st (fun t' k' => XS.pop X2_.here hx rfl (hb hby d_jdk_42_method_155_8) rfl rfl k') ?_
  show Runs p.tables e below _ (T2_.setTop (mkF m 9 #[.val (.int i), .val (.int n)] []))
  refine Runs.ret X2_ hlk (v := none) (fun _ => rfl) (by decide) (by decide) ?_ (fun fs hr => X2_.returnOut hx hret (hb hby d_jdk_42_method_155_9) hr)
  try rw [e2_]
  exact ⟨rfl, N2_, rfl⟩
def Q_rmLCh (Z : State) (b : Addr) (i : Int32) (n : Int32) (k : ClassId) (vs : List Value) (x : Int32) (f : Value) (h0 : Heap) (n0 : Nat) : Option Value → Heap → List Loc → Prop := (fun v h L => v = some (.int (nar .char (((x &&& (255 : Int32)).toUInt32.toUInt16.toUInt32.toInt32)))) ∧ Fr n0 L ∧ h = h0)
theorem pn_java_lang_StringLatin1 : plainName "java/lang/StringLatin1" = true := by first | (simp [plainName, overriddenIn]; done) | decide +kernel
theorem ef_jdk_43_method_2_RI (m : MethodId) (x0 : Addr) (x1 : Int32)  : entryFrame m #[(.ref x0), (.int x1)] 2 = mkF m 0 #[.val (.ref x0), .val (.int x1)] [] := by first | (simp [entryFrame, mkF, argsToLocals, Value.category]; done) | rfl
theorem d_jdk_43_method_2_0 : decode jdk_43_method_2_code 0 = .ok (.iload_n 1, 1) := by decide +kernel
theorem d_jdk_43_method_2_1 : decode jdk_43_method_2_code 1 = .ok (.aload_n 0, 1) := by decide +kernel
theorem d_jdk_43_method_2_2 : decode jdk_43_method_2_code 2 = .ok (.arraylength, 1) := by decide +kernel
theorem pd__28II_29V : parseMethodDescriptor "(II)V" = some ⟨[.int, .int], none⟩ := by decide +kernel
theorem d_jdk_43_method_2_3 : decode jdk_43_method_2_code 3 = .ok (.invokestatic 9, 3) := by decide +kernel
theorem d_jdk_43_method_2_6 : decode jdk_43_method_2_code 6 = .ok (.aload_n 0, 1) := by decide +kernel
theorem d_jdk_43_method_2_7 : decode jdk_43_method_2_code 7 = .ok (.iload_n 1, 1) := by decide +kernel
theorem d_jdk_43_method_2_8 : decode jdk_43_method_2_code 8 = .ok (.baload, 1) := by decide +kernel
theorem d_jdk_43_method_2_9 : decode jdk_43_method_2_code 9 = .ok (.sipush 255, 3) := by decide +kernel
theorem d_jdk_43_method_2_12 : decode jdk_43_method_2_code 12 = .ok (.iand, 1) := by decide +kernel
theorem d_jdk_43_method_2_13 : decode jdk_43_method_2_code 13 = .ok (.i2c, 1) := by decide +kernel
theorem d_jdk_43_method_2_14 : decode jdk_43_method_2_code 14 = .ok (.ireturn, 1) := by decide +kernel
set_option maxRecDepth 65536 in
set_option maxHeartbeats 40000000 in
theorem rmLCh (l : Launch) (Z : State) (a0 : Array Value) (hw : ∀ d ∈ tables_1, d.before a0 Z = true) (ws : List Jvm.Cond) (b : Addr) (i : Int32) (n : Int32) (k : ClassId) (vs : List Value) (x : Int32) (f : Value) (h0 : Heap) (n0 : Nat) (Z0 : n0 ≤ h0.size) (Vb : Arv Z h0 b k .byte n vs (.int (0 : Int32))) (Sf : Sta Z h0 "jdk/internal/util/Preconditions" "SIOOBE_FORMATTER" "Ljava/util/function/BiFunction;" f) (hf : f.isRef = true) (h1 : ¬ i < 0) (h2 : i < n) (hx_ : vs.getD i.toNatClampNeg (.int (0 : Int32)) = .int x) :
    MetFree l (⟨"java/lang/StringLatin1", "charAt", "([BI)C"⟩ : MethodName) (head1 (Jvm.Cond.code (⟨"java/lang/StringLatin1", "charAt", "([BI)C"⟩ : MethodName) jdk_43_method_2_code 2 (some .char) :: ws) ({ frames := 2, cells := 0, slots := 0, locals := 27 } : Room)) (fun ar_ U => ar_ = #[(.ref b), (.int i)] ∧ Z.Warmed39 U.vm ∧ U.heap = h0) (fun _ _ _ _ _ => True) (fun _ U o U' => Phi U (Q_rmLCh Z b i n k vs x f h0 n0) ({ frames := 2, cells := 0, slots := 0, locals := 27 } : Room).cells ({ frames := 2, cells := 0, slots := 0, locals := 27 } : Room).slots o U') := by
  refine MetFree.of_bodySF (plainFor_of_name pn_java_lang_StringLatin1) hisR ?_
  intro p e s m args below meth c s₁ Bd hml0 hP hK
  obtain ⟨rfl, hZ, hh⟩ := hP
  have hx := Bd.exec
  have hby := Bd.bytes
  have hlk := Bd.notSynchronized
  have hml : c.maxLocals = 2 := hml0
  have hown : s.vm.findClass "java/lang/StringLatin1" = some m.cls := findClass_of_methodNamed Bd.named
  have hown0 := hown
  have hnm := (name_of_methodNamed Bd.named Bd.method).1
  have hret := Bd.returns
  have X0 : Stand p l e ({ frames := 2, cells := 0, slots := 0, locals := 27 } : Room) s m #[(.ref b), (.int i)] below meth c s₁ [] 0 0 := Stand.of_body Bd
  have e0 : s₁.heap = h0 := by rw [← hh, Bd.state]; rfl
  have N0 := Fr.nil n0
  have sz := Z0
  have K := Keep.refl h0 []
  show Runs p.tables e below (Phi s (Q_rmLCh Z b i n k vs x f h0 n0) ({ frames := 2, cells := 0, slots := 0, locals := 27 } : Room).cells ({ frames := 2, cells := 0, slots := 0, locals := 27 } : Room).slots) _
  refine Runs.st (fun t' k' => castTop (ef_jdk_43_method_2_RI m b i ) k') ?_
  show Runs p.tables e below _ (s₁.setTop (mkF m 0 #[.val (.ref b), .val (.int i)] []))
  refine Runs.st (fun t' k' => XS.iloadN X0.here hx rfl (hb hby d_jdk_43_method_2_0) rfl k') ?_
  show Runs p.tables e below _ (s₁.setTop (mkF m 1 #[.val (.ref b), .val (.int i)] [(.int i)]))
  refine Runs.st (fun t' k' => XS.aloadN X0.here hx rfl (hb hby d_jdk_43_method_2_1) rfl rfl k') ?_
  show Runs p.tables e below _ (s₁.setTop (mkF m 2 #[.val (.ref b), .val (.int i)] [(.ref b), (.int i)]))
  obtain ⟨cl1_, Ar1_, -, S1_, M1_, -, -⟩ := id Vb
  refine Runs.st (X0.arraylength hx (by rw [e0]; exact Ar1_.1) (State.isArrayOf_alike hZ.alike Ar1_.2.1) (g := (mkF m 2 #[.val (.ref b), .val (.int i)] [(.ref b), (.int i)])) rfl rfl (hb hby d_jdk_43_method_2_2)) ?_
  rw [len_of S1_ M1_]
  show Runs p.tables e below _ (s₁.setTop (mkF m 3 #[.val (.ref b), .val (.int i)] [(.int n), (.int i)]))
  obtain ⟨_, _, ⟨T2_, L2_, k2_, n2_⟩, -, X2_, ⟨Lc2_, hQ2_, l2_, y2_, z2_⟩, st2_⟩ := Jvm.LawKit.callS X0 hx (y := (⟨"java/lang/String", "checkIndex", "(II)V"⟩ : MethodName)) hown (mvT hZ (hw _ (List.mem_of_getElem? (i := 50) rfl))) (mvT hZ (hw _ (List.mem_of_getElem? (i := 51) rfl))) (mvT hZ (hw _ (List.mem_of_getElem? (i := 34) rfl))) (mvT hZ (hw _ (List.mem_of_getElem? (i := 52) rfl))) (by decide) (backOf (W := 0) (rmChk l Z a0 hw [] i n f h0 n0 sz Sf hf h1 h2) hZ (hw _ (List.mem_of_getElem? (i := 52) rfl)) (hw _ (List.mem_of_getElem? (i := 34) rfl)) (by decide) (by decide)) (g := (mkF m 3 #[.val (.ref b), .val (.int i)] [(.int n), (.int i)])) rfl (by rw [hml]; rfl) (argsL := [(.int i), (.int n)]) (rest := []) (lenOf pd__28II_29V rfl) rfl (by show 2 * 0 + _ ≤ _; exact Nat.le_of_eq rfl) (hb hby d_jdk_43_method_2_3) (fun _ _ => ⟨rfl, e0, (by decide : 0 + 0 ≤ _), (by decide : 0 + 0 ≤ _)⟩)
  dsimp only [Pt.U, Pt.locs, Pt.cells, Pt.slots] at X2_ l2_ y2_ z2_ st2_ hQ2_
  subst l2_ y2_ z2_
  obtain ⟨rfl, N2_q, e2_⟩ := hQ2_
  have N2_ := Fr.app N0 N2_q
  refine Runs.st (st2_) ?_
  replace X2_ := wider X2_ (c' := 0) (s' := 0) (by decide) (by decide)
  show Runs p.tables e below _ (T2_.setTop (mkF m 6 #[.val (.ref b), .val (.int i)] []))
  refine Runs.st (fun t' k' => XS.aloadN X2_.here hx rfl (hb hby d_jdk_43_method_2_6) rfl rfl k') ?_
  show Runs p.tables e below _ (T2_.setTop (mkF m 7 #[.val (.ref b), .val (.int i)] [(.ref b)]))
  refine Runs.st (fun t' k' => XS.iloadN X2_.here hx rfl (hb hby d_jdk_43_method_2_7) rfl k') ?_
  show Runs p.tables e below _ (T2_.setTop (mkF m 8 #[.val (.ref b), .val (.int i)] [(.int i), (.ref b)]))
  obtain ⟨cl3_, Ar3_, -, S3_, M3_, Ha3_, -⟩ := id Vb
  have hin3_ : ¬ (i < 0 ∨ cl3_.slots.size ≤ (i).toNatClampNeg) := inb_of S3_ ⟨h1, h2⟩
  refine Runs.st (X2_.baloadBytes hx (j := i) (v := (.int x)) (by rw [e2_]; exact Ar3_.1) (State.isArrayOf_alike hZ.alike Ar3_.2.1) Ar3_.2.2 hin3_ (Ha3_.at hin3_ hx_) (g := (mkF m 8 #[.val (.ref b), .val (.int i)] [(.int i), (.ref b)])) rfl rfl (hb hby d_jdk_43_method_2_8)) ?_
  show Runs p.tables e below _ (T2_.setTop (mkF m 9 #[.val (.ref b), .val (.int i)] [(.int x)]))
  refine Runs.st (fun t' k' => XS.sipush X2_.here hx rfl (hb hby d_jdk_43_method_2_9) k') ?_
  show Runs p.tables e below _ (T2_.setTop (mkF m 12 #[.val (.ref b), .val (.int i)] [(.int (255 : Int32)), (.int x)]))
  refine Runs.st (fun t' k' => XS.iand X2_.here hx rfl (hb hby d_jdk_43_method_2_12) rfl k') ?_
  show Runs p.tables e below _ (T2_.setTop (mkF m 13 #[.val (.ref b), .val (.int i)] [(.int (x &&& (255 : Int32)))]))
  refine Runs.st (fun t' k' => XS.i2c X2_.here hx rfl (hb hby d_jdk_43_method_2_13) rfl k') ?_
  show Runs p.tables e below _ (T2_.setTop (mkF m 14 #[.val (.ref b), .val (.int i)] [(.int ((x &&& (255 : Int32)).toUInt32.toUInt16.toUInt32.toInt32))]))
  refine Runs.ret X2_ hlk (v := (some (.int (nar .char ((x &&& (255 : Int32)).toUInt32.toUInt16.toUInt32.toInt32))))) (fun h => by rw [hret] at h; cases h) (by decide) (by decide) ?_ (fun fs hr => retN X2_ hx (t := .char) hret (by simp) (hb hby d_jdk_43_method_2_14) hr)
  try rw [e2_]
  exact ⟨rfl, N2_, rfl⟩
def Q_rmCh (Z : State) (a : Addr) (i : Int32) (zc : Int32) (b : Addr) (n : Int32) (k : ClassId) (vs : List Value) (x : Int32) (f : Value) (r : Int32) (h0 : Heap) (n0 : Nat) : Option Value → Heap → List Loc → Prop := (fun v h L => v = some (.int r) ∧ Fr n0 L ∧ h = h0)
theorem ef_jdk_42_method_56_RI (m : MethodId) (x0 : Addr) (x1 : Int32)  : entryFrame m #[(.ref x0), (.int x1)] 2 = mkF m 0 #[.val (.ref x0), .val (.int x1)] [] := by first | (simp [entryFrame, mkF, argsToLocals, Value.category]; done) | rfl
theorem d_jdk_42_method_56_0 : decode jdk_42_method_56_code 0 = .ok (.aload_n 0, 1) := by decide +kernel
theorem pd__28_29Z : parseMethodDescriptor "()Z" = some ⟨[], some .boolean⟩ := by decide +kernel
theorem d_jdk_42_method_56_1 : decode jdk_42_method_56_code 1 = .ok (.invokevirtual 492, 3) := by decide +kernel
theorem d_jdk_42_method_56_4 : decode jdk_42_method_56_code 4 = .ok (.ifCond .eq 12, 3) := by decide +kernel
theorem d_jdk_42_method_56_7 : decode jdk_42_method_56_code 7 = .ok (.aload_n 0, 1) := by decide +kernel
theorem d_jdk_42_method_56_8 : decode jdk_42_method_56_code 8 = .ok (.getfield 9, 3) := by decide +kernel
theorem d_jdk_42_method_56_11 : decode jdk_42_method_56_code 11 = .ok (.iload_n 1, 1) := by decide +kernel
theorem pd__28_5bBI_29C : parseMethodDescriptor "([BI)C" = some ⟨[(.array .byte), .int], some .char⟩ := by decide +kernel
theorem d_jdk_42_method_56_12 : decode jdk_42_method_56_code 12 = .ok (.invokestatic 495, 3) := by decide +kernel
theorem d_jdk_42_method_56_15 : decode jdk_42_method_56_code 15 = .ok (.ireturn, 1) := by decide +kernel
set_option maxRecDepth 65536 in
set_option maxHeartbeats 40000000 in
theorem rmCh (l : Launch) (Z : State) (a0 : Array Value) (hw : ∀ d ∈ tables_1, d.before a0 Z = true) (ws : List Jvm.Cond) (a : Addr) (i : Int32) (zc : Int32) (b : Addr) (n : Int32) (k : ClassId) (vs : List Value) (x : Int32) (f : Value) (r : Int32) (h0 : Heap) (n0 : Nat) (Z0 : n0 ≤ h0.size) (E_a : Exa Z h0 a "java/lang/String") (Sc : Sta Z h0 "java/lang/String" "COMPACT_STRINGS" "Z" (.int zc)) (hzc : ¬ zc = 0) (Fc : Fld Z h0 a "java/lang/String" "coder" "B" (.int (0 : Int32))) (Fv : Fld Z h0 a "java/lang/String" "value" "[B" (.ref b)) (Vb : Arv Z h0 b k .byte n vs (.int (0 : Int32))) (Sf : Sta Z h0 "jdk/internal/util/Preconditions" "SIOOBE_FORMATTER" "Ljava/util/function/BiFunction;" f) (hf : f.isRef = true) (h1 : ¬ i < 0) (h2 : i < n) (hx_ : vs.getD i.toNatClampNeg (.int (0 : Int32)) = .int x) (hr_ : r = nar .char (((x &&& (255 : Int32)).toUInt32.toUInt16.toUInt32.toInt32))) :
    MetFree l (⟨"java/lang/String", "charAt", "(I)C"⟩ : MethodName) (head1 (Jvm.Cond.code (⟨"java/lang/String", "charAt", "(I)C"⟩ : MethodName) jdk_42_method_56_code 2 (some .char) :: ws) ({ frames := 3, cells := 0, slots := 0, locals := 40 } : Room)) (fun ar_ U => ar_ = #[(.ref a), (.int i)] ∧ Z.Warmed39 U.vm ∧ U.heap = h0) (fun _ _ _ _ _ => True) (fun _ U o U' => Phi U (Q_rmCh Z a i zc b n k vs x f r h0 n0) ({ frames := 3, cells := 0, slots := 0, locals := 40 } : Room).cells ({ frames := 3, cells := 0, slots := 0, locals := 40 } : Room).slots o U') := by
  refine MetFree.of_bodySF (plainFor_of_name pn_java_lang_String) hisR ?_
  intro p e s m args below meth c s₁ Bd hml0 hP hK
  obtain ⟨rfl, hZ, hh⟩ := hP
  have hx := Bd.exec
  have hby := Bd.bytes
  have hlk := Bd.notSynchronized
  have hml : c.maxLocals = 2 := hml0
  have hown : s.vm.findClass "java/lang/String" = some m.cls := findClass_of_methodNamed Bd.named
  have hown0 := hown
  have hnm := (name_of_methodNamed Bd.named Bd.method).1
  have hret := Bd.returns
  have X0 : Stand p l e ({ frames := 3, cells := 0, slots := 0, locals := 40 } : Room) s m #[(.ref a), (.int i)] below meth c s₁ [] 0 0 := Stand.of_body Bd
  have e0 : s₁.heap = h0 := by rw [← hh, Bd.state]; rfl
  have N0 := Fr.nil n0
  have sz := Z0
  have K := Keep.refl h0 []
  show Runs p.tables e below (Phi s (Q_rmCh Z a i zc b n k vs x f r h0 n0) ({ frames := 3, cells := 0, slots := 0, locals := 40 } : Room).cells ({ frames := 3, cells := 0, slots := 0, locals := 40 } : Room).slots) _
  refine Runs.st (fun t' k' => castTop (ef_jdk_42_method_56_RI m a i ) k') ?_
  show Runs p.tables e below _ (s₁.setTop (mkF m 0 #[.val (.ref a), .val (.int i)] []))
  refine Runs.st (fun t' k' => XS.aloadN X0.here hx rfl (hb hby d_jdk_42_method_56_0) rfl rfl k') ?_
  show Runs p.tables e below _ (s₁.setTop (mkF m 1 #[.val (.ref a), .val (.int i)] [(.ref a)]))
  obtain ⟨cq1_, kq1_, q1_a, q1_b, q1_c⟩ := isOf hZ e0 E_a
  obtain ⟨_, _, ⟨T1_, L1_, k1_, n1_⟩, -, X1_, ⟨Lc1_, hQ1_, l1_, y1_, z1_⟩, st1_⟩ := X0.virtualBack hx (y := (⟨"java/lang/String", "isLatin1", "()Z"⟩ : MethodName)) (z := (⟨"java/lang/String", "isLatin1", "()Z"⟩ : MethodName)) hown (mvT hZ (hw _ (List.mem_of_getElem? (i := 36) rfl))) (mvT hZ (hw _ (List.mem_of_getElem? (i := 37) rfl))) (notFace_of_selects (args := #[]) (mvT hZ (hw _ (List.mem_of_getElem? (i := 39) rfl)))) (mvT hZ (hw _ (List.mem_of_getElem? (i := 39) rfl))) (mvT hZ (hw _ (List.mem_of_getElem? (i := 38) rfl))) (by decide) (backOf (W := 0) (rmLat l Z a0 hw [] a zc h0 n0 sz Sc hzc Fc) hZ (hw _ (List.mem_of_getElem? (i := 40) rfl)) (hw _ (List.mem_of_getElem? (i := 34) rfl)) (by decide) (by decide)) q1_a q1_c (g := (mkF m 1 #[.val (.ref a), .val (.int i)] [(.ref a)])) rfl (by rw [hml]; rfl) (Steps.refl _) (argsL := []) (rest := []) (lenOf pd__28_29Z rfl) rfl (by show 2 * 0 + _ ≤ _; exact Nat.le_of_eq rfl) (hb hby d_jdk_42_method_56_1) (fun _ _ => ⟨rfl, e0, (by decide : 0 + 0 ≤ _), (by decide : 0 + 0 ≤ _)⟩)
  dsimp only [Pt.U, Pt.locs, Pt.cells, Pt.slots] at X1_ l1_ y1_ z1_ st1_ hQ1_
  subst l1_ y1_ z1_
  obtain ⟨rfl, N1_q, e1_⟩ := hQ1_
  have N1_ := Fr.app N0 N1_q
  refine Runs.tr st1_ ?_
  replace X1_ := wider X1_ (c' := 0) (s' := 0) (by decide) (by decide)
  show Runs p.tables e below _ (T1_.setTop (mkF m 4 #[.val (.ref a), .val (.int i)] [(.int (1 : Int32))]))
  refine Runs.st (fun t' k' => XS.ifNo X1_.here hx rfl (hb hby d_jdk_42_method_56_4) rfl ((if0 _ _).trans (feq (by decide)).1) k') ?_
  show Runs p.tables e below _ (T1_.setTop (mkF m 7 #[.val (.ref a), .val (.int i)] []))
  refine Runs.st (fun t' k' => XS.aloadN X1_.here hx rfl (hb hby d_jdk_42_method_56_7) rfl rfl k') ?_
  show Runs p.tables e below _ (T1_.setTop (mkF m 8 #[.val (.ref a), .val (.int i)] [(.ref a)]))
  obtain ⟨T2_, X2_, e2_, st2_⟩ := getF X1_ hx hZ hown (host := "") (Or.inl (hw _ (List.mem_of_getElem? (i := 44) rfl))) Via.refl e1_ Fv (g := (mkF m 8 #[.val (.ref a), .val (.int i)] [(.ref a)])) rfl rfl (hb hby d_jdk_42_method_56_8)
  refine Runs.st (st2_) ?_
  show Runs p.tables e below _ (T2_.setTop (mkF m 11 #[.val (.ref a), .val (.int i)] [(.ref b)]))
  refine Runs.st (fun t' k' => XS.iloadN X2_.here hx rfl (hb hby d_jdk_42_method_56_11) rfl k') ?_
  show Runs p.tables e below _ (T2_.setTop (mkF m 12 #[.val (.ref a), .val (.int i)] [(.int i), (.ref b)]))
  obtain ⟨_, _, ⟨T3_, L3_, k3_, n3_⟩, -, X3_, ⟨Lc3_, hQ3_, l3_, y3_, z3_⟩, st3_⟩ := Jvm.LawKit.callS X2_ hx (y := (⟨"java/lang/StringLatin1", "charAt", "([BI)C"⟩ : MethodName)) hown (mvT hZ (hw _ (List.mem_of_getElem? (i := 46) rfl))) (mvT hZ (hw _ (List.mem_of_getElem? (i := 47) rfl))) (mvT hZ (hw _ (List.mem_of_getElem? (i := 48) rfl))) (mvT hZ (hw _ (List.mem_of_getElem? (i := 49) rfl))) (by decide) (backOf (W := 0) (rmLCh l Z a0 hw [] b i n k vs x f h0 n0 sz Vb Sf hf h1 h2 hx_) hZ (hw _ (List.mem_of_getElem? (i := 49) rfl)) (hw _ (List.mem_of_getElem? (i := 48) rfl)) (by decide) (by decide)) (g := (mkF m 12 #[.val (.ref a), .val (.int i)] [(.int i), (.ref b)])) rfl (by rw [hml]; rfl) (argsL := [(.ref b), (.int i)]) (rest := []) (lenOf pd__28_5bBI_29C rfl) rfl (by show 2 * 0 + _ ≤ _; exact Nat.le_of_eq rfl) (hb hby d_jdk_42_method_56_12) (fun _ _ => ⟨rfl, e2_, (by decide : 0 + 0 ≤ _), (by decide : 0 + 0 ≤ _)⟩)
  dsimp only [Pt.U, Pt.locs, Pt.cells, Pt.slots] at X3_ l3_ y3_ z3_ st3_ hQ3_
  subst l3_ y3_ z3_
  obtain ⟨rfl, N3_q, e3_⟩ := hQ3_
  have N3_ := Fr.app N1_ N3_q
  refine Runs.st (st3_) ?_
  replace X3_ := wider X3_ (c' := 0) (s' := 0) (by decide) (by decide)
  show Runs p.tables e below _ (T3_.setTop (mkF m 15 #[.val (.ref a), .val (.int i)] [(.int (nar .char (((x &&& (255 : Int32)).toUInt32.toUInt16.toUInt32.toInt32))))]))
  refine Runs.ret X3_ hlk (v := (some (.int (nar .char (nar .char (((x &&& (255 : Int32)).toUInt32.toUInt16.toUInt32.toInt32))))))) (fun h => by rw [hret] at h; cases h) (by decide) (by decide) ?_ (fun fs hr => retN X3_ hx (t := .char) hret (by simp) (hb hby d_jdk_42_method_56_15) hr)
  try rw [e3_]
  exact ⟨congrArg (fun z => some (Value.int z)) ((own_nar2 _).trans hr_.symm), N3_, rfl⟩
def Q_rmSym (Z : State) (a : Addr) (r : Addr) (h0 : Heap) (n0 : Nat) : Option Value → Heap → List Loc → Prop := (fun v h L => v = some (.ref r) ∧ Fr n0 L ∧ h = h0)
theorem pn_com_example_final_marking_finalmarking_net_Guard_Operator : plainName "com/example/final_marking/finalmarking/net/Guard$Operator" = true := by first | (simp [plainName, overriddenIn]; done) | decide +kernel
theorem ef_prog_38_method_4_R (m : MethodId) (x0 : Addr)  : entryFrame m #[(.ref x0)] 1 = mkF m 0 #[.val (.ref x0)] [] := by first | (simp [entryFrame, mkF, argsToLocals, Value.category]; done) | rfl
theorem d_prog_38_method_4_0 : decode prog_38_method_4_code 0 = .ok (.aload_n 0, 1) := by decide +kernel
theorem d_prog_38_method_4_1 : decode prog_38_method_4_code 1 = .ok (.getfield 41, 3) := by decide +kernel
theorem d_prog_38_method_4_4 : decode prog_38_method_4_code 4 = .ok (.areturn, 1) := by decide +kernel
set_option maxRecDepth 65536 in
set_option maxHeartbeats 40000000 in
theorem rmSym (l : Launch) (Z : State) (a0 : Array Value) (hw : ∀ d ∈ tables_1, d.before a0 Z = true) (ws : List Jvm.Cond) (a : Addr) (r : Addr) (h0 : Heap) (n0 : Nat) (Z0 : n0 ≤ h0.size) (F1 : Fld Z h0 a "com/example/final_marking/finalmarking/net/Guard$Operator" "symbol" "Ljava/lang/String;" (.ref r)) :
    MetFree l (⟨"com/example/final_marking/finalmarking/net/Guard$Operator", "symbol", "()Ljava/lang/String;"⟩ : MethodName) (head1 (Jvm.Cond.code (⟨"com/example/final_marking/finalmarking/net/Guard$Operator", "symbol", "()Ljava/lang/String;"⟩ : MethodName) prog_38_method_4_code 1 (some (.object "java/lang/String")) :: ws) ({ frames := 0, cells := 0, slots := 0, locals := 0 } : Room)) (fun ar_ U => ar_ = #[(.ref a)] ∧ Z.Warmed39 U.vm ∧ U.heap = h0) (fun _ _ _ _ _ => True) (fun _ U o U' => Phi U (Q_rmSym Z a r h0 n0) ({ frames := 0, cells := 0, slots := 0, locals := 0 } : Room).cells ({ frames := 0, cells := 0, slots := 0, locals := 0 } : Room).slots o U') := by
  refine MetFree.of_bodySF (plainFor_of_name pn_com_example_final_marking_finalmarking_net_Guard_Operator) hisR ?_
  intro p e s m args below meth c s₁ Bd hml0 hP hK
  obtain ⟨rfl, hZ, hh⟩ := hP
  have hx := Bd.exec
  have hby := Bd.bytes
  have hlk := Bd.notSynchronized
  have hml : c.maxLocals = 1 := hml0
  have hown : s.vm.findClass "com/example/final_marking/finalmarking/net/Guard$Operator" = some m.cls := findClass_of_methodNamed Bd.named
  have hown0 := hown
  have hnm := (name_of_methodNamed Bd.named Bd.method).1
  have hret := Bd.returns
  have X0 : Stand p l e ({ frames := 0, cells := 0, slots := 0, locals := 0 } : Room) s m #[(.ref a)] below meth c s₁ [] 0 0 := Stand.of_body Bd
  have e0 : s₁.heap = h0 := by rw [← hh, Bd.state]; rfl
  have N0 := Fr.nil n0
  have sz := Z0
  have K := Keep.refl h0 []
  show Runs p.tables e below (Phi s (Q_rmSym Z a r h0 n0) ({ frames := 0, cells := 0, slots := 0, locals := 0 } : Room).cells ({ frames := 0, cells := 0, slots := 0, locals := 0 } : Room).slots) _
  refine Runs.st (fun t' k' => castTop (ef_prog_38_method_4_R m a ) k') ?_
  show Runs p.tables e below _ (s₁.setTop (mkF m 0 #[.val (.ref a)] []))
  refine Runs.st (fun t' k' => XS.aloadN X0.here hx rfl (hb hby d_prog_38_method_4_0) rfl rfl k') ?_
  show Runs p.tables e below _ (s₁.setTop (mkF m 1 #[.val (.ref a)] [(.ref a)]))
  obtain ⟨T1_, X1_, e1_, st1_⟩ := getF X0 hx hZ hown (host := "") (Or.inl (hw _ (List.mem_of_getElem? (i := 28) rfl))) Via.refl e0 F1 (g := (mkF m 1 #[.val (.ref a)] [(.ref a)])) rfl rfl (hb hby d_prog_38_method_4_1)
  refine Runs.st (st1_) ?_
  show Runs p.tables e below _ (T1_.setTop (mkF m 4 #[.val (.ref a)] [(.ref r)]))
  refine Runs.ret X1_ hlk (v := (some (.ref r))) (fun h => by rw [hret] at h; cases h) (by decide) (by decide) ?_ (fun fs hr => retOut X1_ hx hret rfl (Or.inr (Or.inr (Or.inr (Or.inr ⟨rfl, rfl, rfl⟩)))) (hb hby d_prog_38_method_4_4) hr)
  try rw [e1_]
  exact ⟨rfl, N0, rfl⟩
def Q_rmOrd (Z : State) (a : Addr) (oe one : Addr) (r : Int32) (h0 : Heap) (n0 : Nat) : Option Value → Heap → List Loc → Prop := (fun v h L => v = some (.int r) ∧ Fr n0 L ∧ h = h0)
theorem ef_prog_38_method_5_R (m : MethodId) (x0 : Addr)  : entryFrame m #[(.ref x0)] 1 = mkF m 0 #[.val (.ref x0)] [] := by first | (simp [entryFrame, mkF, argsToLocals, Value.category]; done) | rfl
theorem d_prog_38_method_5_0 : decode prog_38_method_5_code 0 = .ok (.aload_n 0, 1) := by decide +kernel
theorem d_prog_38_method_5_1 : decode prog_38_method_5_code 1 = .ok (.getstatic 3, 3) := by decide +kernel
theorem d_prog_38_method_5_4 : decode prog_38_method_5_code 4 = .ok (.if_acmp .eq 14, 3) := by decide +kernel
theorem d_prog_38_method_5_18 : decode prog_38_method_5_code 18 = .ok (.iconst 0, 1) := by decide +kernel
theorem d_prog_38_method_5_19 : decode prog_38_method_5_code 19 = .ok (.ireturn, 1) := by decide +kernel
theorem d_prog_38_method_5_7 : decode prog_38_method_5_code 7 = .ok (.aload_n 0, 1) := by decide +kernel
theorem d_prog_38_method_5_8 : decode prog_38_method_5_code 8 = .ok (.getstatic 7, 3) := by decide +kernel
theorem d_prog_38_method_5_11 : decode prog_38_method_5_code 11 = .ok (.if_acmp .eq 7, 3) := by decide +kernel
theorem d_prog_38_method_5_14 : decode prog_38_method_5_code 14 = .ok (.iconst 1, 1) := by decide +kernel
theorem d_prog_38_method_5_15 : decode prog_38_method_5_code 15 = .ok (.goto 4, 3) := by decide +kernel
set_option maxRecDepth 65536 in
set_option maxHeartbeats 40000000 in
theorem rmOrd (l : Launch) (Z : State) (a0 : Array Value) (hw : ∀ d ∈ tables_1, d.before a0 Z = true) (ws : List Jvm.Cond) (a : Addr) (oe one : Addr) (r : Int32) (h0 : Heap) (n0 : Nat) (Z0 : n0 ≤ h0.size) (S0 : Sta Z h0 "com/example/final_marking/finalmarking/net/Guard$Operator" "EQUAL" "Lcom/example/final_marking/finalmarking/net/Guard$Operator;" (.ref oe)) (S1 : Sta Z h0 "com/example/final_marking/finalmarking/net/Guard$Operator" "NOT_EQUAL" "Lcom/example/final_marking/finalmarking/net/Guard$Operator;" (.ref one)) (hr : ((a = oe ∨ a = one) ∧ r = (0 : Int32)) ∨ ((a ≠ oe ∧ a ≠ one) ∧ r = (1 : Int32))) :
    MetFree l (⟨"com/example/final_marking/finalmarking/net/Guard$Operator", "orders", "()Z"⟩ : MethodName) (head1 (Jvm.Cond.code (⟨"com/example/final_marking/finalmarking/net/Guard$Operator", "orders", "()Z"⟩ : MethodName) prog_38_method_5_code 1 (some .boolean) :: ws) ({ frames := 0, cells := 0, slots := 0, locals := 0 } : Room)) (fun ar_ U => ar_ = #[(.ref a)] ∧ Z.Warmed39 U.vm ∧ U.heap = h0) (fun _ _ _ _ _ => True) (fun _ U o U' => Phi U (Q_rmOrd Z a oe one r h0 n0) ({ frames := 0, cells := 0, slots := 0, locals := 0 } : Room).cells ({ frames := 0, cells := 0, slots := 0, locals := 0 } : Room).slots o U') := by
  refine MetFree.of_bodySF (plainFor_of_name pn_com_example_final_marking_finalmarking_net_Guard_Operator) hisR ?_
  intro p e s m args below meth c s₁ Bd hml0 hP hK
  obtain ⟨rfl, hZ, hh⟩ := hP
  have hx := Bd.exec
  have hby := Bd.bytes
  have hlk := Bd.notSynchronized
  have hml : c.maxLocals = 1 := hml0
  have hown : s.vm.findClass "com/example/final_marking/finalmarking/net/Guard$Operator" = some m.cls := findClass_of_methodNamed Bd.named
  have hown0 := hown
  have hnm := (name_of_methodNamed Bd.named Bd.method).1
  have hret := Bd.returns
  have X0 : Stand p l e ({ frames := 0, cells := 0, slots := 0, locals := 0 } : Room) s m #[(.ref a)] below meth c s₁ [] 0 0 := Stand.of_body Bd
  have e0 : s₁.heap = h0 := by rw [← hh, Bd.state]; rfl
  have N0 := Fr.nil n0
  have sz := Z0
  have K := Keep.refl h0 []
  show Runs p.tables e below (Phi s (Q_rmOrd Z a oe one r h0 n0) ({ frames := 0, cells := 0, slots := 0, locals := 0 } : Room).cells ({ frames := 0, cells := 0, slots := 0, locals := 0 } : Room).slots) _
  refine Runs.st (fun t' k' => castTop (ef_prog_38_method_5_R m a ) k') ?_
  show Runs p.tables e below _ (s₁.setTop (mkF m 0 #[.val (.ref a)] []))
  refine Runs.st (fun t' k' => XS.aloadN X0.here hx rfl (hb hby d_prog_38_method_5_0) rfl rfl k') ?_
  show Runs p.tables e below _ (s₁.setTop (mkF m 1 #[.val (.ref a)] [(.ref a)]))
  obtain ⟨T1_, X1_, e1_, st1_⟩ := getS2 X0 hx hZ hown (host := "") (Or.inl (hw _ (List.mem_of_getElem? (i := 22) rfl))) Via.refl e0 S0 (g := (mkF m 1 #[.val (.ref a)] [(.ref a)])) rfl (hb hby d_prog_38_method_5_1)
  refine Runs.st (st1_) ?_
  show Runs p.tables e below _ (T1_.setTop (mkF m 4 #[.val (.ref a)] [(.ref oe), (.ref a)]))
  by_cases q1 : a = oe
  · skip
    have q0 : (0 : Int32) = r := by rcases hr with ⟨-, q⟩ | ⟨⟨q, -⟩, -⟩; exact q.symm; exact absurd q1 q
    refine Runs.st (fun t' k' => Jvm.RoadKit.acmp (g := (mkF m 4 #[.val (.ref a)] [(.ref oe), (.ref a)])) X1_ hx rfl rfl rfl (pc0 := 4) (pc' := 18) (same := true) rfl (hb hby d_prog_38_method_5_4) rfl (decide_eq_true (congrArg Value.ref q1)) (by decide) (by decide) k') ?_
    show Runs p.tables e below _ (T1_.setTop (mkF m 18 #[.val (.ref a)] []))
    refine Runs.st (fun t' k' => XS.iconst X1_.here hx rfl (hb hby d_prog_38_method_5_18) k') ?_
    show Runs p.tables e below _ (T1_.setTop (mkF m 19 #[.val (.ref a)] [(.int (0 : Int32))]))
    refine Runs.ret X1_ hlk (v := (some (.int (0 : Int32)))) (fun h => by rw [hret] at h; cases h) (by decide) (by decide) ?_ (fun fs hr => retN X1_ hx (t := .boolean) hret (by simp) (hb hby d_prog_38_method_5_19) hr)
    try rw [e1_]
    exact ⟨congrArg (fun z => some (Value.int z)) q0, N0, rfl⟩
  · skip
    refine Runs.st (fun t' k' => Jvm.RoadKit.acmp (g := (mkF m 4 #[.val (.ref a)] [(.ref oe), (.ref a)])) X1_ hx rfl rfl rfl (pc0 := 4) (pc' := 7) (same := false) rfl (hb hby d_prog_38_method_5_4) rfl (decide_eq_false fun q => q1 (Value.ref.inj q)) (by decide) (by decide) k') ?_
    show Runs p.tables e below _ (T1_.setTop (mkF m 7 #[.val (.ref a)] []))
    refine Runs.st (fun t' k' => XS.aloadN X1_.here hx rfl (hb hby d_prog_38_method_5_7) rfl rfl k') ?_
    show Runs p.tables e below _ (T1_.setTop (mkF m 8 #[.val (.ref a)] [(.ref a)]))
    obtain ⟨T2_, X2_, e2_, st2_⟩ := getS2 X1_ hx hZ hown (host := "") (Or.inl (hw _ (List.mem_of_getElem? (i := 58) rfl))) Via.refl e1_ S1 (g := (mkF m 8 #[.val (.ref a)] [(.ref a)])) rfl (hb hby d_prog_38_method_5_8)
    refine Runs.st (st2_) ?_
    show Runs p.tables e below _ (T2_.setTop (mkF m 11 #[.val (.ref a)] [(.ref one), (.ref a)]))
    by_cases q2 : a = one
    · skip
      have q0 : (0 : Int32) = r := by rcases hr with ⟨-, q⟩ | ⟨⟨-, q⟩, -⟩; exact q.symm; exact absurd q2 q
      refine Runs.st (fun t' k' => Jvm.RoadKit.acmp (g := (mkF m 11 #[.val (.ref a)] [(.ref one), (.ref a)])) X2_ hx rfl rfl rfl (pc0 := 11) (pc' := 18) (same := true) rfl (hb hby d_prog_38_method_5_11) rfl (decide_eq_true (congrArg Value.ref q2)) (by decide) (by decide) k') ?_
      show Runs p.tables e below _ (T2_.setTop (mkF m 18 #[.val (.ref a)] []))
      refine Runs.st (fun t' k' => XS.iconst X2_.here hx rfl (hb hby d_prog_38_method_5_18) k') ?_
      show Runs p.tables e below _ (T2_.setTop (mkF m 19 #[.val (.ref a)] [(.int (0 : Int32))]))
      refine Runs.ret X2_ hlk (v := (some (.int (0 : Int32)))) (fun h => by rw [hret] at h; cases h) (by decide) (by decide) ?_ (fun fs hr => retN X2_ hx (t := .boolean) hret (by simp) (hb hby d_prog_38_method_5_19) hr)
      try rw [e2_]
      exact ⟨congrArg (fun z => some (Value.int z)) q0, N0, rfl⟩
    · skip
      have q0 : (1 : Int32) = r := by rcases hr with ⟨q | q, -⟩ | ⟨-, q⟩; exact absurd q q1; exact absurd q q2; exact q.symm
      refine Runs.st (fun t' k' => Jvm.RoadKit.acmp (g := (mkF m 11 #[.val (.ref a)] [(.ref one), (.ref a)])) X2_ hx rfl rfl rfl (pc0 := 11) (pc' := 14) (same := false) rfl (hb hby d_prog_38_method_5_11) rfl (decide_eq_false fun q => q2 (Value.ref.inj q)) (by decide) (by decide) k') ?_
      show Runs p.tables e below _ (T2_.setTop (mkF m 14 #[.val (.ref a)] []))
      refine Runs.st (fun t' k' => XS.iconst X2_.here hx rfl (hb hby d_prog_38_method_5_14) k') ?_
      show Runs p.tables e below _ (T2_.setTop (mkF m 15 #[.val (.ref a)] [(.int (1 : Int32))]))
      refine Runs.st (fun t' k' => XS.goto X2_.here hx rfl (pc0 := 15) (pc' := 19) rfl (hb hby d_prog_38_method_5_15) (by decide) (by decide) k') ?_
      show Runs p.tables e below _ (T2_.setTop (mkF m 19 #[.val (.ref a)] [(.int (1 : Int32))]))
      refine Runs.ret X2_ hlk (v := (some (.int (1 : Int32)))) (fun h => by rw [hret] at h; cases h) (by decide) (by decide) ?_ (fun fs hr => retN X2_ hx (t := .boolean) hret (by simp) (hb hby d_prog_38_method_5_19) hr)
      try rw [e2_]
      exact ⟨congrArg (fun z => some (Value.int z)) q0, N0, rfl⟩
theorem pn_com_example_final_marking_finalmarking_net_OperatorOrdersPinLaw : plainName "com/example/final_marking/finalmarking/net/OperatorOrdersPinLaw" = true := by first | (simp [plainName, overriddenIn]; done) | decide +kernel
theorem ef_0_I (m : MethodId) (x0 : Int32)  : entryFrame m #[(.int x0)] maxLocals = mkF m 0 #[.val (.int x0), .unset, .unset, .unset, .unset, .unset, .unset, .unset, .unset] [] := by first | (simp [entryFrame, mkF, argsToLocals, Value.category, maxLocals]; done) | rfl
theorem pd__28_29Ljava_2flang_2fString_3b : parseMethodDescriptor "()Ljava/lang/String;" = some ⟨[], some (.object "java/lang/String")⟩ := by decide +kernel
theorem pd__28I_29C : parseMethodDescriptor "(I)C" = some ⟨[.int], some .char⟩ := by decide +kernel
set_option maxRecDepth 65536 in
set_option maxHeartbeats 40000000 in
theorem rm0 (l : Launch) (Z : State) (a0 : Array Value) (hw : ∀ d ∈ tables_1, d.before a0 Z = true) (ws : List Jvm.Cond) (i0 : Int32) (oe one ol ole og oge s0 s1 s2 s3 s4 s5 v0 v1 v2 v3 v4 v5 : Addr) (kq0 kq1 kq2 kq3 kq4 kq5 : ClassId) (zc : Int32) (fm : Value) (h0 : Heap) (n0 : Nat) (Z0 : n0 ≤ h0.size) (old : Old Z n0 h0) (Sc : Sta Z Z.heap "java/lang/String" "COMPACT_STRINGS" "Z" (.int zc)) (hzc : ¬ zc = 0) (Sf : Sta Z Z.heap "jdk/internal/util/Preconditions" "SIOOBE_FORMATTER" "Ljava/util/function/BiFunction;" fm) (hfm : fm.isRef = true) (S0 : Sta Z Z.heap "com/example/final_marking/finalmarking/net/Guard$Operator" "EQUAL" "Lcom/example/final_marking/finalmarking/net/Guard$Operator;" (.ref oe)) (E0 : Exa Z Z.heap oe "com/example/final_marking/finalmarking/net/Guard$Operator") (O0 : Fld Z Z.heap oe "java/lang/Enum" "ordinal" "I" (.int (0 : Int32))) (Fs0 : Fld Z Z.heap oe "com/example/final_marking/finalmarking/net/Guard$Operator" "symbol" "Ljava/lang/String;" (.ref s0)) (Es0 : Exa Z Z.heap s0 "java/lang/String") (Fc0 : Fld Z Z.heap s0 "java/lang/String" "coder" "B" (.int (0 : Int32))) (Fv0 : Fld Z Z.heap s0 "java/lang/String" "value" "[B" (.ref v0)) (V0 : Arv Z Z.heap v0 kq0 .byte (2 : Int32) [(.int (61 : Int32)), (.int (61 : Int32))] (.int (0 : Int32))) (S1 : Sta Z Z.heap "com/example/final_marking/finalmarking/net/Guard$Operator" "NOT_EQUAL" "Lcom/example/final_marking/finalmarking/net/Guard$Operator;" (.ref one)) (E1 : Exa Z Z.heap one "com/example/final_marking/finalmarking/net/Guard$Operator") (O1 : Fld Z Z.heap one "java/lang/Enum" "ordinal" "I" (.int (1 : Int32))) (Fs1 : Fld Z Z.heap one "com/example/final_marking/finalmarking/net/Guard$Operator" "symbol" "Ljava/lang/String;" (.ref s1)) (Es1 : Exa Z Z.heap s1 "java/lang/String") (Fc1 : Fld Z Z.heap s1 "java/lang/String" "coder" "B" (.int (0 : Int32))) (Fv1 : Fld Z Z.heap s1 "java/lang/String" "value" "[B" (.ref v1)) (V1 : Arv Z Z.heap v1 kq1 .byte (2 : Int32) [(.int (33 : Int32)), (.int (61 : Int32))] (.int (0 : Int32))) (S2 : Sta Z Z.heap "com/example/final_marking/finalmarking/net/Guard$Operator" "LESS" "Lcom/example/final_marking/finalmarking/net/Guard$Operator;" (.ref ol)) (E2 : Exa Z Z.heap ol "com/example/final_marking/finalmarking/net/Guard$Operator") (O2 : Fld Z Z.heap ol "java/lang/Enum" "ordinal" "I" (.int (2 : Int32))) (Fs2 : Fld Z Z.heap ol "com/example/final_marking/finalmarking/net/Guard$Operator" "symbol" "Ljava/lang/String;" (.ref s2)) (Es2 : Exa Z Z.heap s2 "java/lang/String") (Fc2 : Fld Z Z.heap s2 "java/lang/String" "coder" "B" (.int (0 : Int32))) (Fv2 : Fld Z Z.heap s2 "java/lang/String" "value" "[B" (.ref v2)) (V2 : Arv Z Z.heap v2 kq2 .byte (1 : Int32) [(.int (60 : Int32))] (.int (0 : Int32))) (S3 : Sta Z Z.heap "com/example/final_marking/finalmarking/net/Guard$Operator" "LESS_OR_EQUAL" "Lcom/example/final_marking/finalmarking/net/Guard$Operator;" (.ref ole)) (E3 : Exa Z Z.heap ole "com/example/final_marking/finalmarking/net/Guard$Operator") (O3 : Fld Z Z.heap ole "java/lang/Enum" "ordinal" "I" (.int (3 : Int32))) (Fs3 : Fld Z Z.heap ole "com/example/final_marking/finalmarking/net/Guard$Operator" "symbol" "Ljava/lang/String;" (.ref s3)) (Es3 : Exa Z Z.heap s3 "java/lang/String") (Fc3 : Fld Z Z.heap s3 "java/lang/String" "coder" "B" (.int (0 : Int32))) (Fv3 : Fld Z Z.heap s3 "java/lang/String" "value" "[B" (.ref v3)) (V3 : Arv Z Z.heap v3 kq3 .byte (2 : Int32) [(.int (60 : Int32)), (.int (61 : Int32))] (.int (0 : Int32))) (S4 : Sta Z Z.heap "com/example/final_marking/finalmarking/net/Guard$Operator" "GREATER" "Lcom/example/final_marking/finalmarking/net/Guard$Operator;" (.ref og)) (E4 : Exa Z Z.heap og "com/example/final_marking/finalmarking/net/Guard$Operator") (O4 : Fld Z Z.heap og "java/lang/Enum" "ordinal" "I" (.int (4 : Int32))) (Fs4 : Fld Z Z.heap og "com/example/final_marking/finalmarking/net/Guard$Operator" "symbol" "Ljava/lang/String;" (.ref s4)) (Es4 : Exa Z Z.heap s4 "java/lang/String") (Fc4 : Fld Z Z.heap s4 "java/lang/String" "coder" "B" (.int (0 : Int32))) (Fv4 : Fld Z Z.heap s4 "java/lang/String" "value" "[B" (.ref v4)) (V4 : Arv Z Z.heap v4 kq4 .byte (1 : Int32) [(.int (62 : Int32))] (.int (0 : Int32))) (S5 : Sta Z Z.heap "com/example/final_marking/finalmarking/net/Guard$Operator" "GREATER_OR_EQUAL" "Lcom/example/final_marking/finalmarking/net/Guard$Operator;" (.ref oge)) (E5 : Exa Z Z.heap oge "com/example/final_marking/finalmarking/net/Guard$Operator") (O5 : Fld Z Z.heap oge "java/lang/Enum" "ordinal" "I" (.int (5 : Int32))) (Fs5 : Fld Z Z.heap oge "com/example/final_marking/finalmarking/net/Guard$Operator" "symbol" "Ljava/lang/String;" (.ref s5)) (Es5 : Exa Z Z.heap s5 "java/lang/String") (Fc5 : Fld Z Z.heap s5 "java/lang/String" "coder" "B" (.int (0 : Int32))) (Fv5 : Fld Z Z.heap s5 "java/lang/String" "value" "[B" (.ref v5)) (V5 : Arv Z Z.heap v5 kq5 .byte (2 : Int32) [(.int (62 : Int32)), (.int (61 : Int32))] (.int (0 : Int32)))  :
    MetFree l x (head1 (Jvm.Cond.code x code maxLocals ret :: ws) room_1) (fun ar_ U => ar_ = #[(.int i0)] ∧ Z.Warmed39 U.vm ∧ U.heap = h0) (fun _ _ _ _ _ => True) (fun _ U o U' => Phi U (fun v h L => v = some (.int 1) ∧ Fr n0 L) room_1.cells room_1.slots o U') := by
  refine MetFree.of_bodySF (plainFor_of_name pn_com_example_final_marking_finalmarking_net_OperatorOrdersPinLaw) hisR ?_
  intro p e s m args below meth c s₁ Bd hml0 hP hK
  obtain ⟨rfl, hZ, hh⟩ := hP
  have hx := Bd.exec
  have hby := Bd.bytes
  have hlk := Bd.notSynchronized
  have hml : c.maxLocals = 9 := hml0
  have hown : s.vm.findClass "com/example/final_marking/finalmarking/net/OperatorOrdersPinLaw" = some m.cls := findClass_of_methodNamed Bd.named
  have hown0 := hown
  have hnm := (name_of_methodNamed Bd.named Bd.method).1
  have hret := Bd.returns
  have X0 : Stand p l e room_1 s m #[(.int i0)] below meth c s₁ [] 0 0 := Stand.of_body Bd
  have e0 : s₁.heap = h0 := by rw [← hh, Bd.state]; rfl
  have N0 := Fr.nil n0
  have sz := Z0
  have K := Keep.refl h0 []
  show Runs p.tables e below (Phi s (fun v h L => v = some (.int 1) ∧ Fr n0 L) room_1.cells room_1.slots) _
  refine Runs.st (fun t' k' => castTop (ef_0_I m i0 ) k') ?_
  show Runs p.tables e below _ (s₁.setTop (mkF m 0 #[.val (.int i0), .unset, .unset, .unset, .unset, .unset, .unset, .unset, .unset] []))
  have hcase : ((i0 &&& (2147483647 : Int32)) % (6 : Int32)) = (0 : Int32) ∨ ((i0 &&& (2147483647 : Int32)) % (6 : Int32)) = (1 : Int32) ∨ ((i0 &&& (2147483647 : Int32)) % (6 : Int32)) = (2 : Int32) ∨ ((i0 &&& (2147483647 : Int32)) % (6 : Int32)) = (3 : Int32) ∨ ((i0 &&& (2147483647 : Int32)) % (6 : Int32)) = (4 : Int32) ∨ ((i0 &&& (2147483647 : Int32)) % (6 : Int32)) = (5 : Int32) := by
    have a : (i0 &&& (2147483647 : Int32)).toInt = i0.toInt % 2 ^ 31 := Jvm.Kit.i32_mask i0 2147483647 (k := 31) (by decide) (by decide)
    have b := (c_irem (i0 &&& (2147483647 : Int32)) (6 : Int32) 6 rfl).1 (by omega)
    have t : ∀ j : Int32, (((i0 &&& (2147483647 : Int32)) % (6 : Int32)) = j ↔ ((i0 &&& (2147483647 : Int32)) % (6 : Int32)).toInt = j.toInt) := fun j => Int32.toInt_inj.symm
    rw [t 0, t 1, t 2, t 3, t 4, t 5, show (0 : Int32).toInt = 0 from rfl, show (1 : Int32).toInt = 1 from rfl, show (2 : Int32).toInt = 2 from rfl, show (3 : Int32).toInt = 3 from rfl, show (4 : Int32).toInt = 4 from rfl, show (5 : Int32).toInt = 5 from rfl]
    omega
  have neq : ∀ {x y : Addr} {j k : Int32}, Fld Z Z.heap x "java/lang/Enum" "ordinal" "I" (.int j) → Fld Z Z.heap y "java/lang/Enum" "ordinal" "I" (.int k) → j ≠ k → x ≠ y := fun F G q => F.ne G fun e => q (Value.int.inj e)
  refine Runs.st (fun t' k' => XS.bipush X0.here hx rfl (hb hby at_0) k') ?_
  show Runs p.tables e below _ (s₁.setTop (mkF m 2 #[.val (.int i0), .unset, .unset, .unset, .unset, .unset, .unset, .unset, .unset] [(.int (6 : Int32))]))
  obtain ⟨T1_, h1_, k1_, X1_, e1_, E1_, A1_, O1_, st1_⟩ := newR X0 hx hZ hown (hw _ (List.mem_of_getElem? (i := 0) rfl)) (hw _ (List.mem_of_getElem? (i := 1) rfl)) e0 (g := (mkF m 2 #[.val (.int i0), .unset, .unset, .unset, .unset, .unset, .unset, .unset, .unset] [(.int (6 : Int32))])) rfl (hb hby at_2) rfl (by decide) (cap := 6) (by decide) (by decide) (by decide) (by decide)
  refine Runs.st (st1_) ?_
  obtain ⟨b1, g1_⟩ : ∃ z, z = h0.size := ⟨_, rfl⟩
  rw [← g1_] at A1_
  try rw [← g1_]
  have g_b1 : n0 ≤ b1 := Nat.le_trans sz (Nat.le_of_eq g1_.symm)
  have sz_b1 : h0.size ≤ b1 := Nat.le_trans K.1 (Nat.le_of_eq g1_.symm)
  replace old := old.ext E1_
  replace sz := Nat.le_trans sz E1_.1
  replace K := K.ext E1_
  have V_b1 : Arv Z h1_ b1 k1_ (.object "com/example/final_marking/finalmarking/net/Guard$Operator") (6 : Int32) [.null, .null, .null, .null, .null, .null] .null := (Arv.new A1_ (by decide)).pad (pad_rep [] .null 6)
  have O_b1 := O1_
  show Runs p.tables e below _ (T1_.setTop (mkF m 5 #[.val (.int i0), .unset, .unset, .unset, .unset, .unset, .unset, .unset, .unset] [(.ref b1)]))
  refine Runs.st (fun t' k' => XS.dup X1_.here hx rfl (hb hby at_5) rfl rfl k') ?_
  show Runs p.tables e below _ (T1_.setTop (mkF m 6 #[.val (.int i0), .unset, .unset, .unset, .unset, .unset, .unset, .unset, .unset] [(.ref b1), (.ref b1)]))
  refine Runs.st (fun t' k' => XS.iconst X1_.here hx rfl (hb hby at_6) k') ?_
  show Runs p.tables e below _ (T1_.setTop (mkF m 7 #[.val (.int i0), .unset, .unset, .unset, .unset, .unset, .unset, .unset, .unset] [(.int (0 : Int32)), (.ref b1), (.ref b1)]))
  obtain ⟨T2_, X2_, e2_, st2_⟩ := getS2 X1_ hx hZ hown (host := "") (Or.inl (hw _ (List.mem_of_getElem? (i := 2) rfl))) Via.refl e1_ (S0.ext old.2) (g := (mkF m 7 #[.val (.int i0), .unset, .unset, .unset, .unset, .unset, .unset, .unset, .unset] [(.int (0 : Int32)), (.ref b1), (.ref b1)])) rfl (hb hby at_7)
  refine Runs.st (st2_) ?_
  show Runs p.tables e below _ (T2_.setTop (mkF m 10 #[.val (.int i0), .unset, .unset, .unset, .unset, .unset, .unset, .unset, .unset] [(.ref oe), (.int (0 : Int32)), (.ref b1), (.ref b1)]))
  obtain ⟨cl3_, Ar3_, q3_, S3_, M3_, Ha3_, G3_⟩ := V_b1
  have hin3_ : ¬ ((0 : Int32) < 0 ∨ cl3_.slots.size ≤ ((0 : Int32)).toNatClampNeg) := inb_of S3_ ⟨by decide, by decide⟩
  have sto3_ : Sto Z h1_ b1 (.ref oe) := Sto.ofV Ar3_ q3_ O_b1 (Ins.self (E0.ext old.2))
  obtain ⟨T3_, h3_, X3_, e3_, W3_, st3_⟩ := stR X2_ hx hZ e2_ Ar3_ (j := (0 : Int32)) hin3_ rfl sto3_ (g := (mkF m 10 #[.val (.int i0), .unset, .unset, .unset, .unset, .unset, .unset, .unset, .unset] [(.ref oe), (.int (0 : Int32)), (.ref b1), (.ref b1)])) rfl rfl (hb hby at_10)
  refine Runs.st (st3_) ?_
  have V_b1 := Arv.set Ar3_ q3_ S3_ M3_ Ha3_ G3_ rfl W3_ 0 rfl (Nat.le_of_ble_eq_true rfl)
  replace old := old.wr W3_ g_b1
  replace sz := Nat.le_trans sz (Keep.of_wr W3_).1
  have N3_ := Fr.snoc X3_ N0 g_b1
  replace K := K.wr W3_ (Or.inr sz_b1)
  show Runs p.tables e below _ (T3_.setTop (mkF m 11 #[.val (.int i0), .unset, .unset, .unset, .unset, .unset, .unset, .unset, .unset] [(.ref b1)]))
  refine Runs.st (fun t' k' => XS.dup X3_.here hx rfl (hb hby at_11) rfl rfl k') ?_
  show Runs p.tables e below _ (T3_.setTop (mkF m 12 #[.val (.int i0), .unset, .unset, .unset, .unset, .unset, .unset, .unset, .unset] [(.ref b1), (.ref b1)]))
  refine Runs.st (fun t' k' => XS.iconst X3_.here hx rfl (hb hby at_12) k') ?_
  show Runs p.tables e below _ (T3_.setTop (mkF m 13 #[.val (.int i0), .unset, .unset, .unset, .unset, .unset, .unset, .unset, .unset] [(.int (1 : Int32)), (.ref b1), (.ref b1)]))
  obtain ⟨T4_, X4_, e4_, st4_⟩ := getS2 X3_ hx hZ hown (host := "") (Or.inl (hw _ (List.mem_of_getElem? (i := 6) rfl))) Via.refl e3_ (S1.ext old.2) (g := (mkF m 13 #[.val (.int i0), .unset, .unset, .unset, .unset, .unset, .unset, .unset, .unset] [(.int (1 : Int32)), (.ref b1), (.ref b1)])) rfl (hb hby at_13)
  refine Runs.st (st4_) ?_
  show Runs p.tables e below _ (T4_.setTop (mkF m 16 #[.val (.int i0), .unset, .unset, .unset, .unset, .unset, .unset, .unset, .unset] [(.ref one), (.int (1 : Int32)), (.ref b1), (.ref b1)]))
  obtain ⟨cl5_, Ar5_, q5_, S5_, M5_, Ha5_, G5_⟩ := V_b1
  have hin5_ : ¬ ((1 : Int32) < 0 ∨ cl5_.slots.size ≤ ((1 : Int32)).toNatClampNeg) := inb_of S5_ ⟨by decide, by decide⟩
  have sto5_ : Sto Z h3_ b1 (.ref one) := Sto.ofV Ar5_ q5_ O_b1 (Ins.self (E1.ext old.2))
  obtain ⟨T5_, h5_, X5_, e5_, W5_, st5_⟩ := stR X4_ hx hZ e4_ Ar5_ (j := (1 : Int32)) hin5_ rfl sto5_ (g := (mkF m 16 #[.val (.int i0), .unset, .unset, .unset, .unset, .unset, .unset, .unset, .unset] [(.ref one), (.int (1 : Int32)), (.ref b1), (.ref b1)])) rfl rfl (hb hby at_16)
  refine Runs.st (st5_) ?_
  have V_b1 := Arv.set Ar5_ q5_ S5_ M5_ Ha5_ G5_ rfl W5_ 1 rfl (Nat.le_of_ble_eq_true rfl)
  replace old := old.wr W5_ g_b1
  replace sz := Nat.le_trans sz (Keep.of_wr W5_).1
  have N5_ := Fr.snoc X5_ N3_ g_b1
  replace K := K.wr W5_ (Or.inr sz_b1)
  show Runs p.tables e below _ (T5_.setTop (mkF m 17 #[.val (.int i0), .unset, .unset, .unset, .unset, .unset, .unset, .unset, .unset] [(.ref b1)]))
  refine Runs.st (fun t' k' => XS.dup X5_.here hx rfl (hb hby at_17) rfl rfl k') ?_
  show Runs p.tables e below _ (T5_.setTop (mkF m 18 #[.val (.int i0), .unset, .unset, .unset, .unset, .unset, .unset, .unset, .unset] [(.ref b1), (.ref b1)]))
  refine Runs.st (fun t' k' => XS.iconst X5_.here hx rfl (hb hby at_18) k') ?_
  show Runs p.tables e below _ (T5_.setTop (mkF m 19 #[.val (.int i0), .unset, .unset, .unset, .unset, .unset, .unset, .unset, .unset] [(.int (2 : Int32)), (.ref b1), (.ref b1)]))
  obtain ⟨T6_, X6_, e6_, st6_⟩ := getS2 X5_ hx hZ hown (host := "") (Or.inl (hw _ (List.mem_of_getElem? (i := 8) rfl))) Via.refl e5_ (S2.ext old.2) (g := (mkF m 19 #[.val (.int i0), .unset, .unset, .unset, .unset, .unset, .unset, .unset, .unset] [(.int (2 : Int32)), (.ref b1), (.ref b1)])) rfl (hb hby at_19)
  refine Runs.st (st6_) ?_
  show Runs p.tables e below _ (T6_.setTop (mkF m 22 #[.val (.int i0), .unset, .unset, .unset, .unset, .unset, .unset, .unset, .unset] [(.ref ol), (.int (2 : Int32)), (.ref b1), (.ref b1)]))
  obtain ⟨cl7_, Ar7_, q7_, S7_, M7_, Ha7_, G7_⟩ := V_b1
  have hin7_ : ¬ ((2 : Int32) < 0 ∨ cl7_.slots.size ≤ ((2 : Int32)).toNatClampNeg) := inb_of S7_ ⟨by decide, by decide⟩
  have sto7_ : Sto Z h5_ b1 (.ref ol) := Sto.ofV Ar7_ q7_ O_b1 (Ins.self (E2.ext old.2))
  obtain ⟨T7_, h7_, X7_, e7_, W7_, st7_⟩ := stR X6_ hx hZ e6_ Ar7_ (j := (2 : Int32)) hin7_ rfl sto7_ (g := (mkF m 22 #[.val (.int i0), .unset, .unset, .unset, .unset, .unset, .unset, .unset, .unset] [(.ref ol), (.int (2 : Int32)), (.ref b1), (.ref b1)])) rfl rfl (hb hby at_22)
  refine Runs.st (st7_) ?_
  have V_b1 := Arv.set Ar7_ q7_ S7_ M7_ Ha7_ G7_ rfl W7_ 2 rfl (Nat.le_of_ble_eq_true rfl)
  replace old := old.wr W7_ g_b1
  replace sz := Nat.le_trans sz (Keep.of_wr W7_).1
  have N7_ := Fr.snoc X7_ N5_ g_b1
  replace K := K.wr W7_ (Or.inr sz_b1)
  show Runs p.tables e below _ (T7_.setTop (mkF m 23 #[.val (.int i0), .unset, .unset, .unset, .unset, .unset, .unset, .unset, .unset] [(.ref b1)]))
  refine Runs.st (fun t' k' => XS.dup X7_.here hx rfl (hb hby at_23) rfl rfl k') ?_
  show Runs p.tables e below _ (T7_.setTop (mkF m 24 #[.val (.int i0), .unset, .unset, .unset, .unset, .unset, .unset, .unset, .unset] [(.ref b1), (.ref b1)]))
  refine Runs.st (fun t' k' => XS.iconst X7_.here hx rfl (hb hby at_24) k') ?_
  show Runs p.tables e below _ (T7_.setTop (mkF m 25 #[.val (.int i0), .unset, .unset, .unset, .unset, .unset, .unset, .unset, .unset] [(.int (3 : Int32)), (.ref b1), (.ref b1)]))
  obtain ⟨T8_, X8_, e8_, st8_⟩ := getS2 X7_ hx hZ hown (host := "") (Or.inl (hw _ (List.mem_of_getElem? (i := 10) rfl))) Via.refl e7_ (S3.ext old.2) (g := (mkF m 25 #[.val (.int i0), .unset, .unset, .unset, .unset, .unset, .unset, .unset, .unset] [(.int (3 : Int32)), (.ref b1), (.ref b1)])) rfl (hb hby at_25)
  refine Runs.st (st8_) ?_
  show Runs p.tables e below _ (T8_.setTop (mkF m 28 #[.val (.int i0), .unset, .unset, .unset, .unset, .unset, .unset, .unset, .unset] [(.ref ole), (.int (3 : Int32)), (.ref b1), (.ref b1)]))
  obtain ⟨cl9_, Ar9_, q9_, S9_, M9_, Ha9_, G9_⟩ := V_b1
  have hin9_ : ¬ ((3 : Int32) < 0 ∨ cl9_.slots.size ≤ ((3 : Int32)).toNatClampNeg) := inb_of S9_ ⟨by decide, by decide⟩
  have sto9_ : Sto Z h7_ b1 (.ref ole) := Sto.ofV Ar9_ q9_ O_b1 (Ins.self (E3.ext old.2))
  obtain ⟨T9_, h9_, X9_, e9_, W9_, st9_⟩ := stR X8_ hx hZ e8_ Ar9_ (j := (3 : Int32)) hin9_ rfl sto9_ (g := (mkF m 28 #[.val (.int i0), .unset, .unset, .unset, .unset, .unset, .unset, .unset, .unset] [(.ref ole), (.int (3 : Int32)), (.ref b1), (.ref b1)])) rfl rfl (hb hby at_28)
  refine Runs.st (st9_) ?_
  have V_b1 := Arv.set Ar9_ q9_ S9_ M9_ Ha9_ G9_ rfl W9_ 3 rfl (Nat.le_of_ble_eq_true rfl)
  replace old := old.wr W9_ g_b1
  replace sz := Nat.le_trans sz (Keep.of_wr W9_).1
  have N9_ := Fr.snoc X9_ N7_ g_b1
  replace K := K.wr W9_ (Or.inr sz_b1)
  show Runs p.tables e below _ (T9_.setTop (mkF m 29 #[.val (.int i0), .unset, .unset, .unset, .unset, .unset, .unset, .unset, .unset] [(.ref b1)]))
  refine Runs.st (fun t' k' => XS.dup X9_.here hx rfl (hb hby at_29) rfl rfl k') ?_
  show Runs p.tables e below _ (T9_.setTop (mkF m 30 #[.val (.int i0), .unset, .unset, .unset, .unset, .unset, .unset, .unset, .unset] [(.ref b1), (.ref b1)]))
  refine Runs.st (fun t' k' => XS.iconst X9_.here hx rfl (hb hby at_30) k') ?_
  show Runs p.tables e below _ (T9_.setTop (mkF m 31 #[.val (.int i0), .unset, .unset, .unset, .unset, .unset, .unset, .unset, .unset] [(.int (4 : Int32)), (.ref b1), (.ref b1)]))
  obtain ⟨T10_, X10_, e10_, st10_⟩ := getS2 X9_ hx hZ hown (host := "") (Or.inl (hw _ (List.mem_of_getElem? (i := 12) rfl))) Via.refl e9_ (S4.ext old.2) (g := (mkF m 31 #[.val (.int i0), .unset, .unset, .unset, .unset, .unset, .unset, .unset, .unset] [(.int (4 : Int32)), (.ref b1), (.ref b1)])) rfl (hb hby at_31)
  refine Runs.st (st10_) ?_
  show Runs p.tables e below _ (T10_.setTop (mkF m 34 #[.val (.int i0), .unset, .unset, .unset, .unset, .unset, .unset, .unset, .unset] [(.ref og), (.int (4 : Int32)), (.ref b1), (.ref b1)]))
  obtain ⟨cl11_, Ar11_, q11_, S11_, M11_, Ha11_, G11_⟩ := V_b1
  have hin11_ : ¬ ((4 : Int32) < 0 ∨ cl11_.slots.size ≤ ((4 : Int32)).toNatClampNeg) := inb_of S11_ ⟨by decide, by decide⟩
  have sto11_ : Sto Z h9_ b1 (.ref og) := Sto.ofV Ar11_ q11_ O_b1 (Ins.self (E4.ext old.2))
  obtain ⟨T11_, h11_, X11_, e11_, W11_, st11_⟩ := stR X10_ hx hZ e10_ Ar11_ (j := (4 : Int32)) hin11_ rfl sto11_ (g := (mkF m 34 #[.val (.int i0), .unset, .unset, .unset, .unset, .unset, .unset, .unset, .unset] [(.ref og), (.int (4 : Int32)), (.ref b1), (.ref b1)])) rfl rfl (hb hby at_34)
  refine Runs.st (st11_) ?_
  have V_b1 := Arv.set Ar11_ q11_ S11_ M11_ Ha11_ G11_ rfl W11_ 4 rfl (Nat.le_of_ble_eq_true rfl)
  replace old := old.wr W11_ g_b1
  replace sz := Nat.le_trans sz (Keep.of_wr W11_).1
  have N11_ := Fr.snoc X11_ N9_ g_b1
  replace K := K.wr W11_ (Or.inr sz_b1)
  show Runs p.tables e below _ (T11_.setTop (mkF m 35 #[.val (.int i0), .unset, .unset, .unset, .unset, .unset, .unset, .unset, .unset] [(.ref b1)]))
  refine Runs.st (fun t' k' => XS.dup X11_.here hx rfl (hb hby at_35) rfl rfl k') ?_
  show Runs p.tables e below _ (T11_.setTop (mkF m 36 #[.val (.int i0), .unset, .unset, .unset, .unset, .unset, .unset, .unset, .unset] [(.ref b1), (.ref b1)]))
  refine Runs.st (fun t' k' => XS.iconst X11_.here hx rfl (hb hby at_36) k') ?_
  show Runs p.tables e below _ (T11_.setTop (mkF m 37 #[.val (.int i0), .unset, .unset, .unset, .unset, .unset, .unset, .unset, .unset] [(.int (5 : Int32)), (.ref b1), (.ref b1)]))
  obtain ⟨T12_, X12_, e12_, st12_⟩ := getS2 X11_ hx hZ hown (host := "") (Or.inl (hw _ (List.mem_of_getElem? (i := 14) rfl))) Via.refl e11_ (S5.ext old.2) (g := (mkF m 37 #[.val (.int i0), .unset, .unset, .unset, .unset, .unset, .unset, .unset, .unset] [(.int (5 : Int32)), (.ref b1), (.ref b1)])) rfl (hb hby at_37)
  refine Runs.st (st12_) ?_
  show Runs p.tables e below _ (T12_.setTop (mkF m 40 #[.val (.int i0), .unset, .unset, .unset, .unset, .unset, .unset, .unset, .unset] [(.ref oge), (.int (5 : Int32)), (.ref b1), (.ref b1)]))
  obtain ⟨cl13_, Ar13_, q13_, S13_, M13_, Ha13_, G13_⟩ := V_b1
  have hin13_ : ¬ ((5 : Int32) < 0 ∨ cl13_.slots.size ≤ ((5 : Int32)).toNatClampNeg) := inb_of S13_ ⟨by decide, by decide⟩
  have sto13_ : Sto Z h11_ b1 (.ref oge) := Sto.ofV Ar13_ q13_ O_b1 (Ins.self (E5.ext old.2))
  obtain ⟨T13_, h13_, X13_, e13_, W13_, st13_⟩ := stR X12_ hx hZ e12_ Ar13_ (j := (5 : Int32)) hin13_ rfl sto13_ (g := (mkF m 40 #[.val (.int i0), .unset, .unset, .unset, .unset, .unset, .unset, .unset, .unset] [(.ref oge), (.int (5 : Int32)), (.ref b1), (.ref b1)])) rfl rfl (hb hby at_40)
  refine Runs.st (st13_) ?_
  have V_b1 := Arv.set Ar13_ q13_ S13_ M13_ Ha13_ G13_ rfl W13_ 5 rfl (Nat.le_of_ble_eq_true rfl)
  replace old := old.wr W13_ g_b1
  replace sz := Nat.le_trans sz (Keep.of_wr W13_).1
  have N13_ := Fr.snoc X13_ N11_ g_b1
  replace K := K.wr W13_ (Or.inr sz_b1)
  show Runs p.tables e below _ (T13_.setTop (mkF m 41 #[.val (.int i0), .unset, .unset, .unset, .unset, .unset, .unset, .unset, .unset] [(.ref b1)]))
  refine Runs.st (fun t' k' => XS.astoreN X13_.here hx rfl (hb hby at_41) rfl rfl (l' := #[.val (.int i0), .val (.ref b1), .unset, .unset, .unset, .unset, .unset, .unset, .unset]) rfl k') ?_
  show Runs p.tables e below _ (T13_.setTop (mkF m 42 #[.val (.int i0), .val (.ref b1), .unset, .unset, .unset, .unset, .unset, .unset, .unset] []))
  refine Runs.st (fun t' k' => XS.iloadN X13_.here hx rfl (hb hby at_42) rfl k') ?_
  show Runs p.tables e below _ (T13_.setTop (mkF m 43 #[.val (.int i0), .val (.ref b1), .unset, .unset, .unset, .unset, .unset, .unset, .unset] [(.int i0)]))
  refine Runs.st (fun t' k' => X13_.ldcInt hx hown (mvT hZ (hw _ (List.mem_of_getElem? (i := 16) rfl))) (g := (mkF m 43 #[.val (.int i0), .val (.ref b1), .unset, .unset, .unset, .unset, .unset, .unset, .unset] [(.int i0)])) rfl (hb hby at_43) t' k') ?_
  show Runs p.tables e below _ (T13_.setTop (mkF m 45 #[.val (.int i0), .val (.ref b1), .unset, .unset, .unset, .unset, .unset, .unset, .unset] [(.int (2147483647 : Int32)), (.int i0)]))
  refine Runs.st (fun t' k' => XS.iand X13_.here hx rfl (hb hby at_45) rfl k') ?_
  show Runs p.tables e below _ (T13_.setTop (mkF m 46 #[.val (.int i0), .val (.ref b1), .unset, .unset, .unset, .unset, .unset, .unset, .unset] [(.int (i0 &&& (2147483647 : Int32)))]))
  refine Runs.st (fun t' k' => XS.bipush X13_.here hx rfl (hb hby at_46) k') ?_
  show Runs p.tables e below _ (T13_.setTop (mkF m 48 #[.val (.int i0), .val (.ref b1), .unset, .unset, .unset, .unset, .unset, .unset, .unset] [(.int (6 : Int32)), (.int (i0 &&& (2147483647 : Int32)))]))
  refine Runs.st (fun t' k' => iremM X13_ hx rfl (hb hby at_48) rfl (by decide) k') ?_
  show Runs p.tables e below _ (T13_.setTop (mkF m 49 #[.val (.int i0), .val (.ref b1), .unset, .unset, .unset, .unset, .unset, .unset, .unset] [(.int ((i0 &&& (2147483647 : Int32)) % (6 : Int32)))]))
  rcases hcase with hj | hj | hj | hj | hj | hj
  · skip
    rw [hj]
    show Runs p.tables e below _ (T13_.setTop (mkF m 49 #[.val (.int i0), .val (.ref b1), .unset, .unset, .unset, .unset, .unset, .unset, .unset] [(.int (0 : Int32))]))
    refine Runs.st (fun t' k' => XS.istoreN X13_.here hx rfl (hb hby at_49) rfl (l' := #[.val (.int i0), .val (.ref b1), .val (.int (0 : Int32)), .unset, .unset, .unset, .unset, .unset, .unset]) rfl k') ?_
    show Runs p.tables e below _ (T13_.setTop (mkF m 50 #[.val (.int i0), .val (.ref b1), .val (.int (0 : Int32)), .unset, .unset, .unset, .unset, .unset, .unset] []))
    refine Runs.st (fun t' k' => XS.aloadN X13_.here hx rfl (hb hby at_50) rfl rfl k') ?_
    show Runs p.tables e below _ (T13_.setTop (mkF m 51 #[.val (.int i0), .val (.ref b1), .val (.int (0 : Int32)), .unset, .unset, .unset, .unset, .unset, .unset] [(.ref b1)]))
    refine Runs.st (fun t' k' => XS.iloadN X13_.here hx rfl (hb hby at_51) rfl k') ?_
    show Runs p.tables e below _ (T13_.setTop (mkF m 52 #[.val (.int i0), .val (.ref b1), .val (.int (0 : Int32)), .unset, .unset, .unset, .unset, .unset, .unset] [(.int (0 : Int32)), (.ref b1)]))
    obtain ⟨cl14_, Ar14_, -, S14_, M14_, Ha14_, -⟩ := id V_b1
    have hin14_ : ¬ ((0 : Int32) < 0 ∨ cl14_.slots.size ≤ ((0 : Int32)).toNatClampNeg) := inb_of S14_ ⟨by decide, by decide⟩
    refine Runs.st (X13_.aaload hx (j := (0 : Int32)) (v := (.ref oe)) (by rw [e13_]; exact Ar14_.1) (State.isArrayOf_alike hZ.alike Ar14_.2.1) rfl Ar14_.2.2 hin14_ (Ha14_.at hin14_ rfl) (g := (mkF m 52 #[.val (.int i0), .val (.ref b1), .val (.int (0 : Int32)), .unset, .unset, .unset, .unset, .unset, .unset] [(.int (0 : Int32)), (.ref b1)])) rfl rfl (hb hby at_52)) ?_
    show Runs p.tables e below _ (T13_.setTop (mkF m 53 #[.val (.int i0), .val (.ref b1), .val (.int (0 : Int32)), .unset, .unset, .unset, .unset, .unset, .unset] [(.ref oe)]))
    refine Runs.st (fun t' k' => XS.astoreN X13_.here hx rfl (hb hby at_53) rfl rfl (l' := #[.val (.int i0), .val (.ref b1), .val (.int (0 : Int32)), .val (.ref oe), .unset, .unset, .unset, .unset, .unset]) rfl k') ?_
    show Runs p.tables e below _ (T13_.setTop (mkF m 54 #[.val (.int i0), .val (.ref b1), .val (.int (0 : Int32)), .val (.ref oe), .unset, .unset, .unset, .unset, .unset] []))
    refine Runs.st (fun t' k' => XS.aloadN X13_.here hx rfl (hb hby at_54) rfl rfl k') ?_
    show Runs p.tables e below _ (T13_.setTop (mkF m 55 #[.val (.int i0), .val (.ref b1), .val (.int (0 : Int32)), .val (.ref oe), .unset, .unset, .unset, .unset, .unset] [(.ref oe)]))
    obtain ⟨cq15_, kq15_, q15_a, q15_b, q15_c⟩ := isOf hZ e13_ (E0.ext old.2)
    obtain ⟨_, _, ⟨T15_, L15_, k15_, n15_⟩, -, X15_, ⟨Lc15_, hQ15_, l15_, y15_, z15_⟩, st15_⟩ := X13_.virtualBack hx (y := (⟨"com/example/final_marking/finalmarking/net/Guard$Operator", "orders", "()Z"⟩ : MethodName)) (z := (⟨"com/example/final_marking/finalmarking/net/Guard$Operator", "orders", "()Z"⟩ : MethodName)) hown (mvT hZ (hw _ (List.mem_of_getElem? (i := 17) rfl))) (mvT hZ (hw _ (List.mem_of_getElem? (i := 18) rfl))) (notFace_of_selects (args := #[]) (mvT hZ (hw _ (List.mem_of_getElem? (i := 20) rfl)))) (mvT hZ (hw _ (List.mem_of_getElem? (i := 20) rfl))) (mvT hZ (hw _ (List.mem_of_getElem? (i := 19) rfl))) (by decide) (backOf (W := 0) (rmOrd l Z a0 hw [] oe oe one (0 : Int32) h13_ n0 sz (S0.ext old.2) (S1.ext old.2) (Or.inl ⟨Or.inl rfl, rfl⟩)) hZ (hw _ (List.mem_of_getElem? (i := 21) rfl)) (hw _ (List.mem_of_getElem? (i := 3) rfl)) (by decide) (by decide)) q15_a q15_c (g := (mkF m 55 #[.val (.int i0), .val (.ref b1), .val (.int (0 : Int32)), .val (.ref oe), .unset, .unset, .unset, .unset, .unset] [(.ref oe)])) rfl (by rw [hml]; rfl) (Steps.refl _) (argsL := []) (rest := []) (lenOf pd__28_29Z rfl) rfl (by show 2 * 0 + _ ≤ _; exact Nat.le_of_eq rfl) (hb hby at_55) (fun _ _ => ⟨rfl, e13_, (by decide : 1 + 0 ≤ _), (by decide : 6 + 0 ≤ _)⟩)
    dsimp only [Pt.U, Pt.locs, Pt.cells, Pt.slots] at X15_ l15_ y15_ z15_ st15_ hQ15_
    subst l15_ y15_ z15_
    obtain ⟨rfl, N15_q, e15_⟩ := hQ15_
    have N15_ := Fr.app N13_ N15_q
    refine Runs.tr st15_ ?_
    replace X15_ := wider X15_ (c' := 1) (s' := 6) (by decide) (by decide)
    show Runs p.tables e below _ (T15_.setTop (mkF m 58 #[.val (.int i0), .val (.ref b1), .val (.int (0 : Int32)), .val (.ref oe), .unset, .unset, .unset, .unset, .unset] [(.int (0 : Int32))]))
    refine Runs.st (fun t' k' => XS.istore X15_.here hx rfl (hb hby at_58) rfl (l' := #[.val (.int i0), .val (.ref b1), .val (.int (0 : Int32)), .val (.ref oe), .val (.int (0 : Int32)), .unset, .unset, .unset, .unset]) rfl k') ?_
    show Runs p.tables e below _ (T15_.setTop (mkF m 60 #[.val (.int i0), .val (.ref b1), .val (.int (0 : Int32)), .val (.ref oe), .val (.int (0 : Int32)), .unset, .unset, .unset, .unset] []))
    refine Runs.st (fun t' k' => XS.aloadN X15_.here hx rfl (hb hby at_60) rfl rfl k') ?_
    show Runs p.tables e below _ (T15_.setTop (mkF m 61 #[.val (.int i0), .val (.ref b1), .val (.int (0 : Int32)), .val (.ref oe), .val (.int (0 : Int32)), .unset, .unset, .unset, .unset] [(.ref oe)]))
    obtain ⟨cq16_, kq16_, q16_a, q16_b, q16_c⟩ := isOf hZ e15_ (E0.ext old.2)
    obtain ⟨_, _, ⟨T16_, L16_, k16_, n16_⟩, -, X16_, ⟨Lc16_, hQ16_, l16_, y16_, z16_⟩, st16_⟩ := X15_.virtualBack hx (y := (⟨"com/example/final_marking/finalmarking/net/Guard$Operator", "symbol", "()Ljava/lang/String;"⟩ : MethodName)) (z := (⟨"com/example/final_marking/finalmarking/net/Guard$Operator", "symbol", "()Ljava/lang/String;"⟩ : MethodName)) hown (mvT hZ (hw _ (List.mem_of_getElem? (i := 23) rfl))) (mvT hZ (hw _ (List.mem_of_getElem? (i := 24) rfl))) (notFace_of_selects (args := #[]) (mvT hZ (hw _ (List.mem_of_getElem? (i := 26) rfl)))) (mvT hZ (hw _ (List.mem_of_getElem? (i := 26) rfl))) (mvT hZ (hw _ (List.mem_of_getElem? (i := 25) rfl))) (by decide) (backOf (W := 0) (rmSym l Z a0 hw [] oe s0 h13_ n0 sz (Fs0.ext old.2)) hZ (hw _ (List.mem_of_getElem? (i := 27) rfl)) (hw _ (List.mem_of_getElem? (i := 3) rfl)) (by decide) (by decide)) q16_a q16_c (g := (mkF m 61 #[.val (.int i0), .val (.ref b1), .val (.int (0 : Int32)), .val (.ref oe), .val (.int (0 : Int32)), .unset, .unset, .unset, .unset] [(.ref oe)])) rfl (by rw [hml]; rfl) (Steps.refl _) (argsL := []) (rest := []) (lenOf pd__28_29Ljava_2flang_2fString_3b rfl) rfl (by show 2 * 0 + _ ≤ _; exact Nat.le_of_eq rfl) (hb hby at_61) (fun _ _ => ⟨rfl, e15_, (by decide : 1 + 0 ≤ _), (by decide : 6 + 0 ≤ _)⟩)
    dsimp only [Pt.U, Pt.locs, Pt.cells, Pt.slots] at X16_ l16_ y16_ z16_ st16_ hQ16_
    subst l16_ y16_ z16_
    obtain ⟨rfl, N16_q, e16_⟩ := hQ16_
    have N16_ := Fr.app N15_ N16_q
    refine Runs.tr st16_ ?_
    replace X16_ := wider X16_ (c' := 1) (s' := 6) (by decide) (by decide)
    show Runs p.tables e below _ (T16_.setTop (mkF m 64 #[.val (.int i0), .val (.ref b1), .val (.int (0 : Int32)), .val (.ref oe), .val (.int (0 : Int32)), .unset, .unset, .unset, .unset] [(.ref s0)]))
    refine Runs.st (fun t' k' => XS.astore X16_.here hx rfl (hb hby at_64) rfl rfl (l' := #[.val (.int i0), .val (.ref b1), .val (.int (0 : Int32)), .val (.ref oe), .val (.int (0 : Int32)), .val (.ref s0), .unset, .unset, .unset]) rfl k') ?_
    show Runs p.tables e below _ (T16_.setTop (mkF m 66 #[.val (.int i0), .val (.ref b1), .val (.int (0 : Int32)), .val (.ref oe), .val (.int (0 : Int32)), .val (.ref s0), .unset, .unset, .unset] []))
    refine Runs.st (fun t' k' => XS.aload X16_.here hx rfl (hb hby at_66) rfl rfl k') ?_
    show Runs p.tables e below _ (T16_.setTop (mkF m 68 #[.val (.int i0), .val (.ref b1), .val (.int (0 : Int32)), .val (.ref oe), .val (.int (0 : Int32)), .val (.ref s0), .unset, .unset, .unset] [(.ref s0)]))
    refine Runs.st (fun t' k' => XS.iconst X16_.here hx rfl (hb hby at_68) k') ?_
    show Runs p.tables e below _ (T16_.setTop (mkF m 69 #[.val (.int i0), .val (.ref b1), .val (.int (0 : Int32)), .val (.ref oe), .val (.int (0 : Int32)), .val (.ref s0), .unset, .unset, .unset] [(.int (0 : Int32)), (.ref s0)]))
    obtain ⟨cq17_, kq17_, q17_a, q17_b, q17_c⟩ := isOf hZ e16_ (Es0.ext old.2)
    obtain ⟨_, _, ⟨T17_, L17_, k17_, n17_⟩, -, X17_, ⟨Lc17_, hQ17_, l17_, y17_, z17_⟩, st17_⟩ := X16_.virtualBack hx (y := (⟨"java/lang/String", "charAt", "(I)C"⟩ : MethodName)) (z := (⟨"java/lang/String", "charAt", "(I)C"⟩ : MethodName)) hown (mvT hZ (hw _ (List.mem_of_getElem? (i := 30) rfl))) (mvT hZ (hw _ (List.mem_of_getElem? (i := 31) rfl))) (notFace_of_selects (args := #[]) (mvT hZ (hw _ (List.mem_of_getElem? (i := 33) rfl)))) (mvT hZ (hw _ (List.mem_of_getElem? (i := 33) rfl))) (mvT hZ (hw _ (List.mem_of_getElem? (i := 32) rfl))) (by decide) (backOf (W := 0) (rmCh l Z a0 hw [] s0 (0 : Int32) zc v0 (2 : Int32) kq0 _ (61 : Int32) fm (61 : Int32) h13_ n0 sz (Es0.ext old.2) (Sc.ext old.2) hzc (Fc0.ext old.2) (Fv0.ext old.2) (V0.ext old.2) (Sf.ext old.2) hfm (by decide) (by decide) rfl (by decide)) hZ (hw _ (List.mem_of_getElem? (i := 35) rfl)) (hw _ (List.mem_of_getElem? (i := 34) rfl)) (by decide) (by decide)) q17_a q17_c (g := (mkF m 69 #[.val (.int i0), .val (.ref b1), .val (.int (0 : Int32)), .val (.ref oe), .val (.int (0 : Int32)), .val (.ref s0), .unset, .unset, .unset] [(.int (0 : Int32)), (.ref s0)])) rfl (by rw [hml]; rfl) (Steps.refl _) (argsL := [(.int (0 : Int32))]) (rest := []) (lenOf pd__28I_29C rfl) rfl (by show 2 * 0 + _ ≤ _; exact Nat.le_of_eq rfl) (hb hby at_69) (fun _ _ => ⟨rfl, e16_, (by decide : 1 + 0 ≤ _), (by decide : 6 + 0 ≤ _)⟩)
    dsimp only [Pt.U, Pt.locs, Pt.cells, Pt.slots] at X17_ l17_ y17_ z17_ st17_ hQ17_
    subst l17_ y17_ z17_
    obtain ⟨rfl, N17_q, e17_⟩ := hQ17_
    have N17_ := Fr.app N16_ N17_q
    refine Runs.tr st17_ ?_
    replace X17_ := wider X17_ (c' := 1) (s' := 6) (by decide) (by decide)
    show Runs p.tables e below _ (T17_.setTop (mkF m 72 #[.val (.int i0), .val (.ref b1), .val (.int (0 : Int32)), .val (.ref oe), .val (.int (0 : Int32)), .val (.ref s0), .unset, .unset, .unset] [(.int (61 : Int32))]))
    refine Runs.st (fun t' k' => XS.istore X17_.here hx rfl (hb hby at_72) rfl (l' := #[.val (.int i0), .val (.ref b1), .val (.int (0 : Int32)), .val (.ref oe), .val (.int (0 : Int32)), .val (.ref s0), .val (.int (61 : Int32)), .unset, .unset]) rfl k') ?_
    show Runs p.tables e below _ (T17_.setTop (mkF m 74 #[.val (.int i0), .val (.ref b1), .val (.int (0 : Int32)), .val (.ref oe), .val (.int (0 : Int32)), .val (.ref s0), .val (.int (61 : Int32)), .unset, .unset] []))
    refine Runs.st (fun t' k' => XS.iload X17_.here hx rfl (hb hby at_74) rfl k') ?_
    show Runs p.tables e below _ (T17_.setTop (mkF m 76 #[.val (.int i0), .val (.ref b1), .val (.int (0 : Int32)), .val (.ref oe), .val (.int (0 : Int32)), .val (.ref s0), .val (.int (61 : Int32)), .unset, .unset] [(.int (61 : Int32))]))
    refine Runs.st (fun t' k' => XS.bipush X17_.here hx rfl (hb hby at_76) k') ?_
    show Runs p.tables e below _ (T17_.setTop (mkF m 78 #[.val (.int i0), .val (.ref b1), .val (.int (0 : Int32)), .val (.ref oe), .val (.int (0 : Int32)), .val (.ref s0), .val (.int (61 : Int32)), .unset, .unset] [(.int (60 : Int32)), (.int (61 : Int32))]))
    refine Runs.st (fun t' k' => XS.icmpNo X17_.here hx rfl (hb hby at_78) rfl (feq (by decide)).1 k') ?_
    show Runs p.tables e below _ (T17_.setTop (mkF m 81 #[.val (.int i0), .val (.ref b1), .val (.int (0 : Int32)), .val (.ref oe), .val (.int (0 : Int32)), .val (.ref s0), .val (.int (61 : Int32)), .unset, .unset] []))
    refine Runs.st (fun t' k' => XS.iload X17_.here hx rfl (hb hby at_81) rfl k') ?_
    show Runs p.tables e below _ (T17_.setTop (mkF m 83 #[.val (.int i0), .val (.ref b1), .val (.int (0 : Int32)), .val (.ref oe), .val (.int (0 : Int32)), .val (.ref s0), .val (.int (61 : Int32)), .unset, .unset] [(.int (61 : Int32))]))
    refine Runs.st (fun t' k' => XS.bipush X17_.here hx rfl (hb hby at_83) k') ?_
    show Runs p.tables e below _ (T17_.setTop (mkF m 85 #[.val (.int i0), .val (.ref b1), .val (.int (0 : Int32)), .val (.ref oe), .val (.int (0 : Int32)), .val (.ref s0), .val (.int (61 : Int32)), .unset, .unset] [(.int (62 : Int32)), (.int (61 : Int32))]))
    refine Runs.st (fun t' k' => XS.icmpYes X17_.here hx rfl (pc0 := 85) (pc' := 92) rfl (hb hby at_85) rfl (feq (by decide)).2 (by decide) (by decide) k') ?_
    show Runs p.tables e below _ (T17_.setTop (mkF m 92 #[.val (.int i0), .val (.ref b1), .val (.int (0 : Int32)), .val (.ref oe), .val (.int (0 : Int32)), .val (.ref s0), .val (.int (61 : Int32)), .unset, .unset] []))
    refine Runs.st (fun t' k' => XS.iconst X17_.here hx rfl (hb hby at_92) k') ?_
    show Runs p.tables e below _ (T17_.setTop (mkF m 93 #[.val (.int i0), .val (.ref b1), .val (.int (0 : Int32)), .val (.ref oe), .val (.int (0 : Int32)), .val (.ref s0), .val (.int (61 : Int32)), .unset, .unset] [(.int (0 : Int32))]))
    refine Runs.st (fun t' k' => XS.istore X17_.here hx rfl (hb hby at_93) rfl (l' := #[.val (.int i0), .val (.ref b1), .val (.int (0 : Int32)), .val (.ref oe), .val (.int (0 : Int32)), .val (.ref s0), .val (.int (61 : Int32)), .val (.int (0 : Int32)), .unset]) rfl k') ?_
    show Runs p.tables e below _ (T17_.setTop (mkF m 95 #[.val (.int i0), .val (.ref b1), .val (.int (0 : Int32)), .val (.ref oe), .val (.int (0 : Int32)), .val (.ref s0), .val (.int (61 : Int32)), .val (.int (0 : Int32)), .unset] []))
    refine Runs.st (fun t' k' => XS.iloadN X17_.here hx rfl (hb hby at_95) rfl k') ?_
    show Runs p.tables e below _ (T17_.setTop (mkF m 96 #[.val (.int i0), .val (.ref b1), .val (.int (0 : Int32)), .val (.ref oe), .val (.int (0 : Int32)), .val (.ref s0), .val (.int (61 : Int32)), .val (.int (0 : Int32)), .unset] [(.int (0 : Int32))]))
    refine Runs.st (fun t' k' => XS.iconst X17_.here hx rfl (hb hby at_96) k') ?_
    show Runs p.tables e below _ (T17_.setTop (mkF m 97 #[.val (.int i0), .val (.ref b1), .val (.int (0 : Int32)), .val (.ref oe), .val (.int (0 : Int32)), .val (.ref s0), .val (.int (61 : Int32)), .val (.int (0 : Int32)), .unset] [(.int (2 : Int32)), (.int (0 : Int32))]))
    refine Runs.st (fun t' k' => XS.icmpYes X17_.here hx rfl (pc0 := 97) (pc' := 104) rfl (hb hby at_97) rfl (tlt (by decide)).1 (by decide) (by decide) k') ?_
    show Runs p.tables e below _ (T17_.setTop (mkF m 104 #[.val (.int i0), .val (.ref b1), .val (.int (0 : Int32)), .val (.ref oe), .val (.int (0 : Int32)), .val (.ref s0), .val (.int (61 : Int32)), .val (.int (0 : Int32)), .unset] []))
    refine Runs.st (fun t' k' => XS.iconst X17_.here hx rfl (hb hby at_104) k') ?_
    show Runs p.tables e below _ (T17_.setTop (mkF m 105 #[.val (.int i0), .val (.ref b1), .val (.int (0 : Int32)), .val (.ref oe), .val (.int (0 : Int32)), .val (.ref s0), .val (.int (61 : Int32)), .val (.int (0 : Int32)), .unset] [(.int (0 : Int32))]))
    refine Runs.st (fun t' k' => XS.istore X17_.here hx rfl (hb hby at_105) rfl (l' := #[.val (.int i0), .val (.ref b1), .val (.int (0 : Int32)), .val (.ref oe), .val (.int (0 : Int32)), .val (.ref s0), .val (.int (61 : Int32)), .val (.int (0 : Int32)), .val (.int (0 : Int32))]) rfl k') ?_
    show Runs p.tables e below _ (T17_.setTop (mkF m 107 #[.val (.int i0), .val (.ref b1), .val (.int (0 : Int32)), .val (.ref oe), .val (.int (0 : Int32)), .val (.ref s0), .val (.int (61 : Int32)), .val (.int (0 : Int32)), .val (.int (0 : Int32))] []))
    refine Runs.st (fun t' k' => XS.iload X17_.here hx rfl (hb hby at_107) rfl k') ?_
    show Runs p.tables e below _ (T17_.setTop (mkF m 109 #[.val (.int i0), .val (.ref b1), .val (.int (0 : Int32)), .val (.ref oe), .val (.int (0 : Int32)), .val (.ref s0), .val (.int (61 : Int32)), .val (.int (0 : Int32)), .val (.int (0 : Int32))] [(.int (0 : Int32))]))
    refine Runs.st (fun t' k' => XS.iload X17_.here hx rfl (hb hby at_109) rfl k') ?_
    show Runs p.tables e below _ (T17_.setTop (mkF m 111 #[.val (.int i0), .val (.ref b1), .val (.int (0 : Int32)), .val (.ref oe), .val (.int (0 : Int32)), .val (.ref s0), .val (.int (61 : Int32)), .val (.int (0 : Int32)), .val (.int (0 : Int32))] [(.int (0 : Int32)), (.int (0 : Int32))]))
    refine Runs.st (fun t' k' => XS.icmpNo X17_.here hx rfl (hb hby at_111) rfl (teq rfl).2 k') ?_
    show Runs p.tables e below _ (T17_.setTop (mkF m 114 #[.val (.int i0), .val (.ref b1), .val (.int (0 : Int32)), .val (.ref oe), .val (.int (0 : Int32)), .val (.ref s0), .val (.int (61 : Int32)), .val (.int (0 : Int32)), .val (.int (0 : Int32))] []))
    refine Runs.st (fun t' k' => XS.iload X17_.here hx rfl (hb hby at_114) rfl k') ?_
    show Runs p.tables e below _ (T17_.setTop (mkF m 116 #[.val (.int i0), .val (.ref b1), .val (.int (0 : Int32)), .val (.ref oe), .val (.int (0 : Int32)), .val (.ref s0), .val (.int (61 : Int32)), .val (.int (0 : Int32)), .val (.int (0 : Int32))] [(.int (0 : Int32))]))
    refine Runs.st (fun t' k' => XS.iload X17_.here hx rfl (hb hby at_116) rfl k') ?_
    show Runs p.tables e below _ (T17_.setTop (mkF m 118 #[.val (.int i0), .val (.ref b1), .val (.int (0 : Int32)), .val (.ref oe), .val (.int (0 : Int32)), .val (.ref s0), .val (.int (61 : Int32)), .val (.int (0 : Int32)), .val (.int (0 : Int32))] [(.int (0 : Int32)), (.int (0 : Int32))]))
    refine Runs.st (fun t' k' => XS.icmpNo X17_.here hx rfl (hb hby at_118) rfl (teq rfl).2 k') ?_
    show Runs p.tables e below _ (T17_.setTop (mkF m 121 #[.val (.int i0), .val (.ref b1), .val (.int (0 : Int32)), .val (.ref oe), .val (.int (0 : Int32)), .val (.ref s0), .val (.int (61 : Int32)), .val (.int (0 : Int32)), .val (.int (0 : Int32))] []))
    refine Runs.st (fun t' k' => XS.iconst X17_.here hx rfl (hb hby at_121) k') ?_
    show Runs p.tables e below _ (T17_.setTop (mkF m 122 #[.val (.int i0), .val (.ref b1), .val (.int (0 : Int32)), .val (.ref oe), .val (.int (0 : Int32)), .val (.ref s0), .val (.int (61 : Int32)), .val (.int (0 : Int32)), .val (.int (0 : Int32))] [(.int (1 : Int32))]))
    refine Runs.st (fun t' k' => XS.goto X17_.here hx rfl (pc0 := 122) (pc' := 126) rfl (hb hby at_122) (by decide) (by decide) k') ?_
    show Runs p.tables e below _ (T17_.setTop (mkF m 126 #[.val (.int i0), .val (.ref b1), .val (.int (0 : Int32)), .val (.ref oe), .val (.int (0 : Int32)), .val (.ref s0), .val (.int (61 : Int32)), .val (.int (0 : Int32)), .val (.int (0 : Int32))] [(.int (1 : Int32))]))
    refine Runs.ret X17_ hlk (v := (some (.int (1 : Int32)))) (fun h => by rw [hret] at h; cases h) (by decide) (by decide) ?_ (fun fs hr => retN X17_ hx (t := .boolean) hret (by simp) (hb hby at_126) hr)
    try rw [e17_]
    exact ⟨rfl, N17_⟩
  · skip
    rw [hj]
    show Runs p.tables e below _ (T13_.setTop (mkF m 49 #[.val (.int i0), .val (.ref b1), .unset, .unset, .unset, .unset, .unset, .unset, .unset] [(.int (1 : Int32))]))
    refine Runs.st (fun t' k' => XS.istoreN X13_.here hx rfl (hb hby at_49) rfl (l' := #[.val (.int i0), .val (.ref b1), .val (.int (1 : Int32)), .unset, .unset, .unset, .unset, .unset, .unset]) rfl k') ?_
    show Runs p.tables e below _ (T13_.setTop (mkF m 50 #[.val (.int i0), .val (.ref b1), .val (.int (1 : Int32)), .unset, .unset, .unset, .unset, .unset, .unset] []))
    refine Runs.st (fun t' k' => XS.aloadN X13_.here hx rfl (hb hby at_50) rfl rfl k') ?_
    show Runs p.tables e below _ (T13_.setTop (mkF m 51 #[.val (.int i0), .val (.ref b1), .val (.int (1 : Int32)), .unset, .unset, .unset, .unset, .unset, .unset] [(.ref b1)]))
    refine Runs.st (fun t' k' => XS.iloadN X13_.here hx rfl (hb hby at_51) rfl k') ?_
    show Runs p.tables e below _ (T13_.setTop (mkF m 52 #[.val (.int i0), .val (.ref b1), .val (.int (1 : Int32)), .unset, .unset, .unset, .unset, .unset, .unset] [(.int (1 : Int32)), (.ref b1)]))
    obtain ⟨cl18_, Ar18_, -, S18_, M18_, Ha18_, -⟩ := id V_b1
    have hin18_ : ¬ ((1 : Int32) < 0 ∨ cl18_.slots.size ≤ ((1 : Int32)).toNatClampNeg) := inb_of S18_ ⟨by decide, by decide⟩
    refine Runs.st (X13_.aaload hx (j := (1 : Int32)) (v := (.ref one)) (by rw [e13_]; exact Ar18_.1) (State.isArrayOf_alike hZ.alike Ar18_.2.1) rfl Ar18_.2.2 hin18_ (Ha18_.at hin18_ rfl) (g := (mkF m 52 #[.val (.int i0), .val (.ref b1), .val (.int (1 : Int32)), .unset, .unset, .unset, .unset, .unset, .unset] [(.int (1 : Int32)), (.ref b1)])) rfl rfl (hb hby at_52)) ?_
    show Runs p.tables e below _ (T13_.setTop (mkF m 53 #[.val (.int i0), .val (.ref b1), .val (.int (1 : Int32)), .unset, .unset, .unset, .unset, .unset, .unset] [(.ref one)]))
    refine Runs.st (fun t' k' => XS.astoreN X13_.here hx rfl (hb hby at_53) rfl rfl (l' := #[.val (.int i0), .val (.ref b1), .val (.int (1 : Int32)), .val (.ref one), .unset, .unset, .unset, .unset, .unset]) rfl k') ?_
    show Runs p.tables e below _ (T13_.setTop (mkF m 54 #[.val (.int i0), .val (.ref b1), .val (.int (1 : Int32)), .val (.ref one), .unset, .unset, .unset, .unset, .unset] []))
    refine Runs.st (fun t' k' => XS.aloadN X13_.here hx rfl (hb hby at_54) rfl rfl k') ?_
    show Runs p.tables e below _ (T13_.setTop (mkF m 55 #[.val (.int i0), .val (.ref b1), .val (.int (1 : Int32)), .val (.ref one), .unset, .unset, .unset, .unset, .unset] [(.ref one)]))
    obtain ⟨cq19_, kq19_, q19_a, q19_b, q19_c⟩ := isOf hZ e13_ (E1.ext old.2)
    obtain ⟨_, _, ⟨T19_, L19_, k19_, n19_⟩, -, X19_, ⟨Lc19_, hQ19_, l19_, y19_, z19_⟩, st19_⟩ := X13_.virtualBack hx (y := (⟨"com/example/final_marking/finalmarking/net/Guard$Operator", "orders", "()Z"⟩ : MethodName)) (z := (⟨"com/example/final_marking/finalmarking/net/Guard$Operator", "orders", "()Z"⟩ : MethodName)) hown (mvT hZ (hw _ (List.mem_of_getElem? (i := 17) rfl))) (mvT hZ (hw _ (List.mem_of_getElem? (i := 18) rfl))) (notFace_of_selects (args := #[]) (mvT hZ (hw _ (List.mem_of_getElem? (i := 20) rfl)))) (mvT hZ (hw _ (List.mem_of_getElem? (i := 20) rfl))) (mvT hZ (hw _ (List.mem_of_getElem? (i := 19) rfl))) (by decide) (backOf (W := 0) (rmOrd l Z a0 hw [] one oe one (0 : Int32) h13_ n0 sz (S0.ext old.2) (S1.ext old.2) (Or.inl ⟨Or.inr rfl, rfl⟩)) hZ (hw _ (List.mem_of_getElem? (i := 21) rfl)) (hw _ (List.mem_of_getElem? (i := 3) rfl)) (by decide) (by decide)) q19_a q19_c (g := (mkF m 55 #[.val (.int i0), .val (.ref b1), .val (.int (1 : Int32)), .val (.ref one), .unset, .unset, .unset, .unset, .unset] [(.ref one)])) rfl (by rw [hml]; rfl) (Steps.refl _) (argsL := []) (rest := []) (lenOf pd__28_29Z rfl) rfl (by show 2 * 0 + _ ≤ _; exact Nat.le_of_eq rfl) (hb hby at_55) (fun _ _ => ⟨rfl, e13_, (by decide : 1 + 0 ≤ _), (by decide : 6 + 0 ≤ _)⟩)
    dsimp only [Pt.U, Pt.locs, Pt.cells, Pt.slots] at X19_ l19_ y19_ z19_ st19_ hQ19_
    subst l19_ y19_ z19_
    obtain ⟨rfl, N19_q, e19_⟩ := hQ19_
    have N19_ := Fr.app N13_ N19_q
    refine Runs.tr st19_ ?_
    replace X19_ := wider X19_ (c' := 1) (s' := 6) (by decide) (by decide)
    show Runs p.tables e below _ (T19_.setTop (mkF m 58 #[.val (.int i0), .val (.ref b1), .val (.int (1 : Int32)), .val (.ref one), .unset, .unset, .unset, .unset, .unset] [(.int (0 : Int32))]))
    refine Runs.st (fun t' k' => XS.istore X19_.here hx rfl (hb hby at_58) rfl (l' := #[.val (.int i0), .val (.ref b1), .val (.int (1 : Int32)), .val (.ref one), .val (.int (0 : Int32)), .unset, .unset, .unset, .unset]) rfl k') ?_
    show Runs p.tables e below _ (T19_.setTop (mkF m 60 #[.val (.int i0), .val (.ref b1), .val (.int (1 : Int32)), .val (.ref one), .val (.int (0 : Int32)), .unset, .unset, .unset, .unset] []))
    refine Runs.st (fun t' k' => XS.aloadN X19_.here hx rfl (hb hby at_60) rfl rfl k') ?_
    show Runs p.tables e below _ (T19_.setTop (mkF m 61 #[.val (.int i0), .val (.ref b1), .val (.int (1 : Int32)), .val (.ref one), .val (.int (0 : Int32)), .unset, .unset, .unset, .unset] [(.ref one)]))
    obtain ⟨cq20_, kq20_, q20_a, q20_b, q20_c⟩ := isOf hZ e19_ (E1.ext old.2)
    obtain ⟨_, _, ⟨T20_, L20_, k20_, n20_⟩, -, X20_, ⟨Lc20_, hQ20_, l20_, y20_, z20_⟩, st20_⟩ := X19_.virtualBack hx (y := (⟨"com/example/final_marking/finalmarking/net/Guard$Operator", "symbol", "()Ljava/lang/String;"⟩ : MethodName)) (z := (⟨"com/example/final_marking/finalmarking/net/Guard$Operator", "symbol", "()Ljava/lang/String;"⟩ : MethodName)) hown (mvT hZ (hw _ (List.mem_of_getElem? (i := 23) rfl))) (mvT hZ (hw _ (List.mem_of_getElem? (i := 24) rfl))) (notFace_of_selects (args := #[]) (mvT hZ (hw _ (List.mem_of_getElem? (i := 26) rfl)))) (mvT hZ (hw _ (List.mem_of_getElem? (i := 26) rfl))) (mvT hZ (hw _ (List.mem_of_getElem? (i := 25) rfl))) (by decide) (backOf (W := 0) (rmSym l Z a0 hw [] one s1 h13_ n0 sz (Fs1.ext old.2)) hZ (hw _ (List.mem_of_getElem? (i := 27) rfl)) (hw _ (List.mem_of_getElem? (i := 3) rfl)) (by decide) (by decide)) q20_a q20_c (g := (mkF m 61 #[.val (.int i0), .val (.ref b1), .val (.int (1 : Int32)), .val (.ref one), .val (.int (0 : Int32)), .unset, .unset, .unset, .unset] [(.ref one)])) rfl (by rw [hml]; rfl) (Steps.refl _) (argsL := []) (rest := []) (lenOf pd__28_29Ljava_2flang_2fString_3b rfl) rfl (by show 2 * 0 + _ ≤ _; exact Nat.le_of_eq rfl) (hb hby at_61) (fun _ _ => ⟨rfl, e19_, (by decide : 1 + 0 ≤ _), (by decide : 6 + 0 ≤ _)⟩)
    dsimp only [Pt.U, Pt.locs, Pt.cells, Pt.slots] at X20_ l20_ y20_ z20_ st20_ hQ20_
    subst l20_ y20_ z20_
    obtain ⟨rfl, N20_q, e20_⟩ := hQ20_
    have N20_ := Fr.app N19_ N20_q
    refine Runs.tr st20_ ?_
    replace X20_ := wider X20_ (c' := 1) (s' := 6) (by decide) (by decide)
    show Runs p.tables e below _ (T20_.setTop (mkF m 64 #[.val (.int i0), .val (.ref b1), .val (.int (1 : Int32)), .val (.ref one), .val (.int (0 : Int32)), .unset, .unset, .unset, .unset] [(.ref s1)]))
    refine Runs.st (fun t' k' => XS.astore X20_.here hx rfl (hb hby at_64) rfl rfl (l' := #[.val (.int i0), .val (.ref b1), .val (.int (1 : Int32)), .val (.ref one), .val (.int (0 : Int32)), .val (.ref s1), .unset, .unset, .unset]) rfl k') ?_
    show Runs p.tables e below _ (T20_.setTop (mkF m 66 #[.val (.int i0), .val (.ref b1), .val (.int (1 : Int32)), .val (.ref one), .val (.int (0 : Int32)), .val (.ref s1), .unset, .unset, .unset] []))
    refine Runs.st (fun t' k' => XS.aload X20_.here hx rfl (hb hby at_66) rfl rfl k') ?_
    show Runs p.tables e below _ (T20_.setTop (mkF m 68 #[.val (.int i0), .val (.ref b1), .val (.int (1 : Int32)), .val (.ref one), .val (.int (0 : Int32)), .val (.ref s1), .unset, .unset, .unset] [(.ref s1)]))
    refine Runs.st (fun t' k' => XS.iconst X20_.here hx rfl (hb hby at_68) k') ?_
    show Runs p.tables e below _ (T20_.setTop (mkF m 69 #[.val (.int i0), .val (.ref b1), .val (.int (1 : Int32)), .val (.ref one), .val (.int (0 : Int32)), .val (.ref s1), .unset, .unset, .unset] [(.int (0 : Int32)), (.ref s1)]))
    obtain ⟨cq21_, kq21_, q21_a, q21_b, q21_c⟩ := isOf hZ e20_ (Es1.ext old.2)
    obtain ⟨_, _, ⟨T21_, L21_, k21_, n21_⟩, -, X21_, ⟨Lc21_, hQ21_, l21_, y21_, z21_⟩, st21_⟩ := X20_.virtualBack hx (y := (⟨"java/lang/String", "charAt", "(I)C"⟩ : MethodName)) (z := (⟨"java/lang/String", "charAt", "(I)C"⟩ : MethodName)) hown (mvT hZ (hw _ (List.mem_of_getElem? (i := 30) rfl))) (mvT hZ (hw _ (List.mem_of_getElem? (i := 31) rfl))) (notFace_of_selects (args := #[]) (mvT hZ (hw _ (List.mem_of_getElem? (i := 33) rfl)))) (mvT hZ (hw _ (List.mem_of_getElem? (i := 33) rfl))) (mvT hZ (hw _ (List.mem_of_getElem? (i := 32) rfl))) (by decide) (backOf (W := 0) (rmCh l Z a0 hw [] s1 (0 : Int32) zc v1 (2 : Int32) kq1 _ (33 : Int32) fm (33 : Int32) h13_ n0 sz (Es1.ext old.2) (Sc.ext old.2) hzc (Fc1.ext old.2) (Fv1.ext old.2) (V1.ext old.2) (Sf.ext old.2) hfm (by decide) (by decide) rfl (by decide)) hZ (hw _ (List.mem_of_getElem? (i := 35) rfl)) (hw _ (List.mem_of_getElem? (i := 34) rfl)) (by decide) (by decide)) q21_a q21_c (g := (mkF m 69 #[.val (.int i0), .val (.ref b1), .val (.int (1 : Int32)), .val (.ref one), .val (.int (0 : Int32)), .val (.ref s1), .unset, .unset, .unset] [(.int (0 : Int32)), (.ref s1)])) rfl (by rw [hml]; rfl) (Steps.refl _) (argsL := [(.int (0 : Int32))]) (rest := []) (lenOf pd__28I_29C rfl) rfl (by show 2 * 0 + _ ≤ _; exact Nat.le_of_eq rfl) (hb hby at_69) (fun _ _ => ⟨rfl, e20_, (by decide : 1 + 0 ≤ _), (by decide : 6 + 0 ≤ _)⟩)
    dsimp only [Pt.U, Pt.locs, Pt.cells, Pt.slots] at X21_ l21_ y21_ z21_ st21_ hQ21_
    subst l21_ y21_ z21_
    obtain ⟨rfl, N21_q, e21_⟩ := hQ21_
    have N21_ := Fr.app N20_ N21_q
    refine Runs.tr st21_ ?_
    replace X21_ := wider X21_ (c' := 1) (s' := 6) (by decide) (by decide)
    show Runs p.tables e below _ (T21_.setTop (mkF m 72 #[.val (.int i0), .val (.ref b1), .val (.int (1 : Int32)), .val (.ref one), .val (.int (0 : Int32)), .val (.ref s1), .unset, .unset, .unset] [(.int (33 : Int32))]))
    refine Runs.st (fun t' k' => XS.istore X21_.here hx rfl (hb hby at_72) rfl (l' := #[.val (.int i0), .val (.ref b1), .val (.int (1 : Int32)), .val (.ref one), .val (.int (0 : Int32)), .val (.ref s1), .val (.int (33 : Int32)), .unset, .unset]) rfl k') ?_
    show Runs p.tables e below _ (T21_.setTop (mkF m 74 #[.val (.int i0), .val (.ref b1), .val (.int (1 : Int32)), .val (.ref one), .val (.int (0 : Int32)), .val (.ref s1), .val (.int (33 : Int32)), .unset, .unset] []))
    refine Runs.st (fun t' k' => XS.iload X21_.here hx rfl (hb hby at_74) rfl k') ?_
    show Runs p.tables e below _ (T21_.setTop (mkF m 76 #[.val (.int i0), .val (.ref b1), .val (.int (1 : Int32)), .val (.ref one), .val (.int (0 : Int32)), .val (.ref s1), .val (.int (33 : Int32)), .unset, .unset] [(.int (33 : Int32))]))
    refine Runs.st (fun t' k' => XS.bipush X21_.here hx rfl (hb hby at_76) k') ?_
    show Runs p.tables e below _ (T21_.setTop (mkF m 78 #[.val (.int i0), .val (.ref b1), .val (.int (1 : Int32)), .val (.ref one), .val (.int (0 : Int32)), .val (.ref s1), .val (.int (33 : Int32)), .unset, .unset] [(.int (60 : Int32)), (.int (33 : Int32))]))
    refine Runs.st (fun t' k' => XS.icmpNo X21_.here hx rfl (hb hby at_78) rfl (feq (by decide)).1 k') ?_
    show Runs p.tables e below _ (T21_.setTop (mkF m 81 #[.val (.int i0), .val (.ref b1), .val (.int (1 : Int32)), .val (.ref one), .val (.int (0 : Int32)), .val (.ref s1), .val (.int (33 : Int32)), .unset, .unset] []))
    refine Runs.st (fun t' k' => XS.iload X21_.here hx rfl (hb hby at_81) rfl k') ?_
    show Runs p.tables e below _ (T21_.setTop (mkF m 83 #[.val (.int i0), .val (.ref b1), .val (.int (1 : Int32)), .val (.ref one), .val (.int (0 : Int32)), .val (.ref s1), .val (.int (33 : Int32)), .unset, .unset] [(.int (33 : Int32))]))
    refine Runs.st (fun t' k' => XS.bipush X21_.here hx rfl (hb hby at_83) k') ?_
    show Runs p.tables e below _ (T21_.setTop (mkF m 85 #[.val (.int i0), .val (.ref b1), .val (.int (1 : Int32)), .val (.ref one), .val (.int (0 : Int32)), .val (.ref s1), .val (.int (33 : Int32)), .unset, .unset] [(.int (62 : Int32)), (.int (33 : Int32))]))
    refine Runs.st (fun t' k' => XS.icmpYes X21_.here hx rfl (pc0 := 85) (pc' := 92) rfl (hb hby at_85) rfl (feq (by decide)).2 (by decide) (by decide) k') ?_
    show Runs p.tables e below _ (T21_.setTop (mkF m 92 #[.val (.int i0), .val (.ref b1), .val (.int (1 : Int32)), .val (.ref one), .val (.int (0 : Int32)), .val (.ref s1), .val (.int (33 : Int32)), .unset, .unset] []))
    refine Runs.st (fun t' k' => XS.iconst X21_.here hx rfl (hb hby at_92) k') ?_
    show Runs p.tables e below _ (T21_.setTop (mkF m 93 #[.val (.int i0), .val (.ref b1), .val (.int (1 : Int32)), .val (.ref one), .val (.int (0 : Int32)), .val (.ref s1), .val (.int (33 : Int32)), .unset, .unset] [(.int (0 : Int32))]))
    refine Runs.st (fun t' k' => XS.istore X21_.here hx rfl (hb hby at_93) rfl (l' := #[.val (.int i0), .val (.ref b1), .val (.int (1 : Int32)), .val (.ref one), .val (.int (0 : Int32)), .val (.ref s1), .val (.int (33 : Int32)), .val (.int (0 : Int32)), .unset]) rfl k') ?_
    show Runs p.tables e below _ (T21_.setTop (mkF m 95 #[.val (.int i0), .val (.ref b1), .val (.int (1 : Int32)), .val (.ref one), .val (.int (0 : Int32)), .val (.ref s1), .val (.int (33 : Int32)), .val (.int (0 : Int32)), .unset] []))
    refine Runs.st (fun t' k' => XS.iloadN X21_.here hx rfl (hb hby at_95) rfl k') ?_
    show Runs p.tables e below _ (T21_.setTop (mkF m 96 #[.val (.int i0), .val (.ref b1), .val (.int (1 : Int32)), .val (.ref one), .val (.int (0 : Int32)), .val (.ref s1), .val (.int (33 : Int32)), .val (.int (0 : Int32)), .unset] [(.int (1 : Int32))]))
    refine Runs.st (fun t' k' => XS.iconst X21_.here hx rfl (hb hby at_96) k') ?_
    show Runs p.tables e below _ (T21_.setTop (mkF m 97 #[.val (.int i0), .val (.ref b1), .val (.int (1 : Int32)), .val (.ref one), .val (.int (0 : Int32)), .val (.ref s1), .val (.int (33 : Int32)), .val (.int (0 : Int32)), .unset] [(.int (2 : Int32)), (.int (1 : Int32))]))
    refine Runs.st (fun t' k' => XS.icmpYes X21_.here hx rfl (pc0 := 97) (pc' := 104) rfl (hb hby at_97) rfl (tlt (by decide)).1 (by decide) (by decide) k') ?_
    show Runs p.tables e below _ (T21_.setTop (mkF m 104 #[.val (.int i0), .val (.ref b1), .val (.int (1 : Int32)), .val (.ref one), .val (.int (0 : Int32)), .val (.ref s1), .val (.int (33 : Int32)), .val (.int (0 : Int32)), .unset] []))
    refine Runs.st (fun t' k' => XS.iconst X21_.here hx rfl (hb hby at_104) k') ?_
    show Runs p.tables e below _ (T21_.setTop (mkF m 105 #[.val (.int i0), .val (.ref b1), .val (.int (1 : Int32)), .val (.ref one), .val (.int (0 : Int32)), .val (.ref s1), .val (.int (33 : Int32)), .val (.int (0 : Int32)), .unset] [(.int (0 : Int32))]))
    refine Runs.st (fun t' k' => XS.istore X21_.here hx rfl (hb hby at_105) rfl (l' := #[.val (.int i0), .val (.ref b1), .val (.int (1 : Int32)), .val (.ref one), .val (.int (0 : Int32)), .val (.ref s1), .val (.int (33 : Int32)), .val (.int (0 : Int32)), .val (.int (0 : Int32))]) rfl k') ?_
    show Runs p.tables e below _ (T21_.setTop (mkF m 107 #[.val (.int i0), .val (.ref b1), .val (.int (1 : Int32)), .val (.ref one), .val (.int (0 : Int32)), .val (.ref s1), .val (.int (33 : Int32)), .val (.int (0 : Int32)), .val (.int (0 : Int32))] []))
    refine Runs.st (fun t' k' => XS.iload X21_.here hx rfl (hb hby at_107) rfl k') ?_
    show Runs p.tables e below _ (T21_.setTop (mkF m 109 #[.val (.int i0), .val (.ref b1), .val (.int (1 : Int32)), .val (.ref one), .val (.int (0 : Int32)), .val (.ref s1), .val (.int (33 : Int32)), .val (.int (0 : Int32)), .val (.int (0 : Int32))] [(.int (0 : Int32))]))
    refine Runs.st (fun t' k' => XS.iload X21_.here hx rfl (hb hby at_109) rfl k') ?_
    show Runs p.tables e below _ (T21_.setTop (mkF m 111 #[.val (.int i0), .val (.ref b1), .val (.int (1 : Int32)), .val (.ref one), .val (.int (0 : Int32)), .val (.ref s1), .val (.int (33 : Int32)), .val (.int (0 : Int32)), .val (.int (0 : Int32))] [(.int (0 : Int32)), (.int (0 : Int32))]))
    refine Runs.st (fun t' k' => XS.icmpNo X21_.here hx rfl (hb hby at_111) rfl (teq rfl).2 k') ?_
    show Runs p.tables e below _ (T21_.setTop (mkF m 114 #[.val (.int i0), .val (.ref b1), .val (.int (1 : Int32)), .val (.ref one), .val (.int (0 : Int32)), .val (.ref s1), .val (.int (33 : Int32)), .val (.int (0 : Int32)), .val (.int (0 : Int32))] []))
    refine Runs.st (fun t' k' => XS.iload X21_.here hx rfl (hb hby at_114) rfl k') ?_
    show Runs p.tables e below _ (T21_.setTop (mkF m 116 #[.val (.int i0), .val (.ref b1), .val (.int (1 : Int32)), .val (.ref one), .val (.int (0 : Int32)), .val (.ref s1), .val (.int (33 : Int32)), .val (.int (0 : Int32)), .val (.int (0 : Int32))] [(.int (0 : Int32))]))
    refine Runs.st (fun t' k' => XS.iload X21_.here hx rfl (hb hby at_116) rfl k') ?_
    show Runs p.tables e below _ (T21_.setTop (mkF m 118 #[.val (.int i0), .val (.ref b1), .val (.int (1 : Int32)), .val (.ref one), .val (.int (0 : Int32)), .val (.ref s1), .val (.int (33 : Int32)), .val (.int (0 : Int32)), .val (.int (0 : Int32))] [(.int (0 : Int32)), (.int (0 : Int32))]))
    refine Runs.st (fun t' k' => XS.icmpNo X21_.here hx rfl (hb hby at_118) rfl (teq rfl).2 k') ?_
    show Runs p.tables e below _ (T21_.setTop (mkF m 121 #[.val (.int i0), .val (.ref b1), .val (.int (1 : Int32)), .val (.ref one), .val (.int (0 : Int32)), .val (.ref s1), .val (.int (33 : Int32)), .val (.int (0 : Int32)), .val (.int (0 : Int32))] []))
    refine Runs.st (fun t' k' => XS.iconst X21_.here hx rfl (hb hby at_121) k') ?_
    show Runs p.tables e below _ (T21_.setTop (mkF m 122 #[.val (.int i0), .val (.ref b1), .val (.int (1 : Int32)), .val (.ref one), .val (.int (0 : Int32)), .val (.ref s1), .val (.int (33 : Int32)), .val (.int (0 : Int32)), .val (.int (0 : Int32))] [(.int (1 : Int32))]))
    refine Runs.st (fun t' k' => XS.goto X21_.here hx rfl (pc0 := 122) (pc' := 126) rfl (hb hby at_122) (by decide) (by decide) k') ?_
    show Runs p.tables e below _ (T21_.setTop (mkF m 126 #[.val (.int i0), .val (.ref b1), .val (.int (1 : Int32)), .val (.ref one), .val (.int (0 : Int32)), .val (.ref s1), .val (.int (33 : Int32)), .val (.int (0 : Int32)), .val (.int (0 : Int32))] [(.int (1 : Int32))]))
    refine Runs.ret X21_ hlk (v := (some (.int (1 : Int32)))) (fun h => by rw [hret] at h; cases h) (by decide) (by decide) ?_ (fun fs hr => retN X21_ hx (t := .boolean) hret (by simp) (hb hby at_126) hr)
    try rw [e21_]
    exact ⟨rfl, N21_⟩
  · skip
    rw [hj]
    show Runs p.tables e below _ (T13_.setTop (mkF m 49 #[.val (.int i0), .val (.ref b1), .unset, .unset, .unset, .unset, .unset, .unset, .unset] [(.int (2 : Int32))]))
    refine Runs.st (fun t' k' => XS.istoreN X13_.here hx rfl (hb hby at_49) rfl (l' := #[.val (.int i0), .val (.ref b1), .val (.int (2 : Int32)), .unset, .unset, .unset, .unset, .unset, .unset]) rfl k') ?_
    show Runs p.tables e below _ (T13_.setTop (mkF m 50 #[.val (.int i0), .val (.ref b1), .val (.int (2 : Int32)), .unset, .unset, .unset, .unset, .unset, .unset] []))
    refine Runs.st (fun t' k' => XS.aloadN X13_.here hx rfl (hb hby at_50) rfl rfl k') ?_
    show Runs p.tables e below _ (T13_.setTop (mkF m 51 #[.val (.int i0), .val (.ref b1), .val (.int (2 : Int32)), .unset, .unset, .unset, .unset, .unset, .unset] [(.ref b1)]))
    refine Runs.st (fun t' k' => XS.iloadN X13_.here hx rfl (hb hby at_51) rfl k') ?_
    show Runs p.tables e below _ (T13_.setTop (mkF m 52 #[.val (.int i0), .val (.ref b1), .val (.int (2 : Int32)), .unset, .unset, .unset, .unset, .unset, .unset] [(.int (2 : Int32)), (.ref b1)]))
    obtain ⟨cl22_, Ar22_, -, S22_, M22_, Ha22_, -⟩ := id V_b1
    have hin22_ : ¬ ((2 : Int32) < 0 ∨ cl22_.slots.size ≤ ((2 : Int32)).toNatClampNeg) := inb_of S22_ ⟨by decide, by decide⟩
    refine Runs.st (X13_.aaload hx (j := (2 : Int32)) (v := (.ref ol)) (by rw [e13_]; exact Ar22_.1) (State.isArrayOf_alike hZ.alike Ar22_.2.1) rfl Ar22_.2.2 hin22_ (Ha22_.at hin22_ rfl) (g := (mkF m 52 #[.val (.int i0), .val (.ref b1), .val (.int (2 : Int32)), .unset, .unset, .unset, .unset, .unset, .unset] [(.int (2 : Int32)), (.ref b1)])) rfl rfl (hb hby at_52)) ?_
    show Runs p.tables e below _ (T13_.setTop (mkF m 53 #[.val (.int i0), .val (.ref b1), .val (.int (2 : Int32)), .unset, .unset, .unset, .unset, .unset, .unset] [(.ref ol)]))
    refine Runs.st (fun t' k' => XS.astoreN X13_.here hx rfl (hb hby at_53) rfl rfl (l' := #[.val (.int i0), .val (.ref b1), .val (.int (2 : Int32)), .val (.ref ol), .unset, .unset, .unset, .unset, .unset]) rfl k') ?_
    show Runs p.tables e below _ (T13_.setTop (mkF m 54 #[.val (.int i0), .val (.ref b1), .val (.int (2 : Int32)), .val (.ref ol), .unset, .unset, .unset, .unset, .unset] []))
    refine Runs.st (fun t' k' => XS.aloadN X13_.here hx rfl (hb hby at_54) rfl rfl k') ?_
    show Runs p.tables e below _ (T13_.setTop (mkF m 55 #[.val (.int i0), .val (.ref b1), .val (.int (2 : Int32)), .val (.ref ol), .unset, .unset, .unset, .unset, .unset] [(.ref ol)]))
    obtain ⟨cq23_, kq23_, q23_a, q23_b, q23_c⟩ := isOf hZ e13_ (E2.ext old.2)
    obtain ⟨_, _, ⟨T23_, L23_, k23_, n23_⟩, -, X23_, ⟨Lc23_, hQ23_, l23_, y23_, z23_⟩, st23_⟩ := X13_.virtualBack hx (y := (⟨"com/example/final_marking/finalmarking/net/Guard$Operator", "orders", "()Z"⟩ : MethodName)) (z := (⟨"com/example/final_marking/finalmarking/net/Guard$Operator", "orders", "()Z"⟩ : MethodName)) hown (mvT hZ (hw _ (List.mem_of_getElem? (i := 17) rfl))) (mvT hZ (hw _ (List.mem_of_getElem? (i := 18) rfl))) (notFace_of_selects (args := #[]) (mvT hZ (hw _ (List.mem_of_getElem? (i := 20) rfl)))) (mvT hZ (hw _ (List.mem_of_getElem? (i := 20) rfl))) (mvT hZ (hw _ (List.mem_of_getElem? (i := 19) rfl))) (by decide) (backOf (W := 0) (rmOrd l Z a0 hw [] ol oe one (1 : Int32) h13_ n0 sz (S0.ext old.2) (S1.ext old.2) (Or.inr ⟨⟨neq O2 O0 (by decide), neq O2 O1 (by decide)⟩, rfl⟩)) hZ (hw _ (List.mem_of_getElem? (i := 21) rfl)) (hw _ (List.mem_of_getElem? (i := 3) rfl)) (by decide) (by decide)) q23_a q23_c (g := (mkF m 55 #[.val (.int i0), .val (.ref b1), .val (.int (2 : Int32)), .val (.ref ol), .unset, .unset, .unset, .unset, .unset] [(.ref ol)])) rfl (by rw [hml]; rfl) (Steps.refl _) (argsL := []) (rest := []) (lenOf pd__28_29Z rfl) rfl (by show 2 * 0 + _ ≤ _; exact Nat.le_of_eq rfl) (hb hby at_55) (fun _ _ => ⟨rfl, e13_, (by decide : 1 + 0 ≤ _), (by decide : 6 + 0 ≤ _)⟩)
    dsimp only [Pt.U, Pt.locs, Pt.cells, Pt.slots] at X23_ l23_ y23_ z23_ st23_ hQ23_
    subst l23_ y23_ z23_
    obtain ⟨rfl, N23_q, e23_⟩ := hQ23_
    have N23_ := Fr.app N13_ N23_q
    refine Runs.tr st23_ ?_
    replace X23_ := wider X23_ (c' := 1) (s' := 6) (by decide) (by decide)
    show Runs p.tables e below _ (T23_.setTop (mkF m 58 #[.val (.int i0), .val (.ref b1), .val (.int (2 : Int32)), .val (.ref ol), .unset, .unset, .unset, .unset, .unset] [(.int (1 : Int32))]))
    refine Runs.st (fun t' k' => XS.istore X23_.here hx rfl (hb hby at_58) rfl (l' := #[.val (.int i0), .val (.ref b1), .val (.int (2 : Int32)), .val (.ref ol), .val (.int (1 : Int32)), .unset, .unset, .unset, .unset]) rfl k') ?_
    show Runs p.tables e below _ (T23_.setTop (mkF m 60 #[.val (.int i0), .val (.ref b1), .val (.int (2 : Int32)), .val (.ref ol), .val (.int (1 : Int32)), .unset, .unset, .unset, .unset] []))
    refine Runs.st (fun t' k' => XS.aloadN X23_.here hx rfl (hb hby at_60) rfl rfl k') ?_
    show Runs p.tables e below _ (T23_.setTop (mkF m 61 #[.val (.int i0), .val (.ref b1), .val (.int (2 : Int32)), .val (.ref ol), .val (.int (1 : Int32)), .unset, .unset, .unset, .unset] [(.ref ol)]))
    obtain ⟨cq24_, kq24_, q24_a, q24_b, q24_c⟩ := isOf hZ e23_ (E2.ext old.2)
    obtain ⟨_, _, ⟨T24_, L24_, k24_, n24_⟩, -, X24_, ⟨Lc24_, hQ24_, l24_, y24_, z24_⟩, st24_⟩ := X23_.virtualBack hx (y := (⟨"com/example/final_marking/finalmarking/net/Guard$Operator", "symbol", "()Ljava/lang/String;"⟩ : MethodName)) (z := (⟨"com/example/final_marking/finalmarking/net/Guard$Operator", "symbol", "()Ljava/lang/String;"⟩ : MethodName)) hown (mvT hZ (hw _ (List.mem_of_getElem? (i := 23) rfl))) (mvT hZ (hw _ (List.mem_of_getElem? (i := 24) rfl))) (notFace_of_selects (args := #[]) (mvT hZ (hw _ (List.mem_of_getElem? (i := 26) rfl)))) (mvT hZ (hw _ (List.mem_of_getElem? (i := 26) rfl))) (mvT hZ (hw _ (List.mem_of_getElem? (i := 25) rfl))) (by decide) (backOf (W := 0) (rmSym l Z a0 hw [] ol s2 h13_ n0 sz (Fs2.ext old.2)) hZ (hw _ (List.mem_of_getElem? (i := 27) rfl)) (hw _ (List.mem_of_getElem? (i := 3) rfl)) (by decide) (by decide)) q24_a q24_c (g := (mkF m 61 #[.val (.int i0), .val (.ref b1), .val (.int (2 : Int32)), .val (.ref ol), .val (.int (1 : Int32)), .unset, .unset, .unset, .unset] [(.ref ol)])) rfl (by rw [hml]; rfl) (Steps.refl _) (argsL := []) (rest := []) (lenOf pd__28_29Ljava_2flang_2fString_3b rfl) rfl (by show 2 * 0 + _ ≤ _; exact Nat.le_of_eq rfl) (hb hby at_61) (fun _ _ => ⟨rfl, e23_, (by decide : 1 + 0 ≤ _), (by decide : 6 + 0 ≤ _)⟩)
    dsimp only [Pt.U, Pt.locs, Pt.cells, Pt.slots] at X24_ l24_ y24_ z24_ st24_ hQ24_
    subst l24_ y24_ z24_
    obtain ⟨rfl, N24_q, e24_⟩ := hQ24_
    have N24_ := Fr.app N23_ N24_q
    refine Runs.tr st24_ ?_
    replace X24_ := wider X24_ (c' := 1) (s' := 6) (by decide) (by decide)
    show Runs p.tables e below _ (T24_.setTop (mkF m 64 #[.val (.int i0), .val (.ref b1), .val (.int (2 : Int32)), .val (.ref ol), .val (.int (1 : Int32)), .unset, .unset, .unset, .unset] [(.ref s2)]))
    refine Runs.st (fun t' k' => XS.astore X24_.here hx rfl (hb hby at_64) rfl rfl (l' := #[.val (.int i0), .val (.ref b1), .val (.int (2 : Int32)), .val (.ref ol), .val (.int (1 : Int32)), .val (.ref s2), .unset, .unset, .unset]) rfl k') ?_
    show Runs p.tables e below _ (T24_.setTop (mkF m 66 #[.val (.int i0), .val (.ref b1), .val (.int (2 : Int32)), .val (.ref ol), .val (.int (1 : Int32)), .val (.ref s2), .unset, .unset, .unset] []))
    refine Runs.st (fun t' k' => XS.aload X24_.here hx rfl (hb hby at_66) rfl rfl k') ?_
    show Runs p.tables e below _ (T24_.setTop (mkF m 68 #[.val (.int i0), .val (.ref b1), .val (.int (2 : Int32)), .val (.ref ol), .val (.int (1 : Int32)), .val (.ref s2), .unset, .unset, .unset] [(.ref s2)]))
    refine Runs.st (fun t' k' => XS.iconst X24_.here hx rfl (hb hby at_68) k') ?_
    show Runs p.tables e below _ (T24_.setTop (mkF m 69 #[.val (.int i0), .val (.ref b1), .val (.int (2 : Int32)), .val (.ref ol), .val (.int (1 : Int32)), .val (.ref s2), .unset, .unset, .unset] [(.int (0 : Int32)), (.ref s2)]))
    obtain ⟨cq25_, kq25_, q25_a, q25_b, q25_c⟩ := isOf hZ e24_ (Es2.ext old.2)
    obtain ⟨_, _, ⟨T25_, L25_, k25_, n25_⟩, -, X25_, ⟨Lc25_, hQ25_, l25_, y25_, z25_⟩, st25_⟩ := X24_.virtualBack hx (y := (⟨"java/lang/String", "charAt", "(I)C"⟩ : MethodName)) (z := (⟨"java/lang/String", "charAt", "(I)C"⟩ : MethodName)) hown (mvT hZ (hw _ (List.mem_of_getElem? (i := 30) rfl))) (mvT hZ (hw _ (List.mem_of_getElem? (i := 31) rfl))) (notFace_of_selects (args := #[]) (mvT hZ (hw _ (List.mem_of_getElem? (i := 33) rfl)))) (mvT hZ (hw _ (List.mem_of_getElem? (i := 33) rfl))) (mvT hZ (hw _ (List.mem_of_getElem? (i := 32) rfl))) (by decide) (backOf (W := 0) (rmCh l Z a0 hw [] s2 (0 : Int32) zc v2 (1 : Int32) kq2 _ (60 : Int32) fm (60 : Int32) h13_ n0 sz (Es2.ext old.2) (Sc.ext old.2) hzc (Fc2.ext old.2) (Fv2.ext old.2) (V2.ext old.2) (Sf.ext old.2) hfm (by decide) (by decide) rfl (by decide)) hZ (hw _ (List.mem_of_getElem? (i := 35) rfl)) (hw _ (List.mem_of_getElem? (i := 34) rfl)) (by decide) (by decide)) q25_a q25_c (g := (mkF m 69 #[.val (.int i0), .val (.ref b1), .val (.int (2 : Int32)), .val (.ref ol), .val (.int (1 : Int32)), .val (.ref s2), .unset, .unset, .unset] [(.int (0 : Int32)), (.ref s2)])) rfl (by rw [hml]; rfl) (Steps.refl _) (argsL := [(.int (0 : Int32))]) (rest := []) (lenOf pd__28I_29C rfl) rfl (by show 2 * 0 + _ ≤ _; exact Nat.le_of_eq rfl) (hb hby at_69) (fun _ _ => ⟨rfl, e24_, (by decide : 1 + 0 ≤ _), (by decide : 6 + 0 ≤ _)⟩)
    dsimp only [Pt.U, Pt.locs, Pt.cells, Pt.slots] at X25_ l25_ y25_ z25_ st25_ hQ25_
    subst l25_ y25_ z25_
    obtain ⟨rfl, N25_q, e25_⟩ := hQ25_
    have N25_ := Fr.app N24_ N25_q
    refine Runs.tr st25_ ?_
    replace X25_ := wider X25_ (c' := 1) (s' := 6) (by decide) (by decide)
    show Runs p.tables e below _ (T25_.setTop (mkF m 72 #[.val (.int i0), .val (.ref b1), .val (.int (2 : Int32)), .val (.ref ol), .val (.int (1 : Int32)), .val (.ref s2), .unset, .unset, .unset] [(.int (60 : Int32))]))
    refine Runs.st (fun t' k' => XS.istore X25_.here hx rfl (hb hby at_72) rfl (l' := #[.val (.int i0), .val (.ref b1), .val (.int (2 : Int32)), .val (.ref ol), .val (.int (1 : Int32)), .val (.ref s2), .val (.int (60 : Int32)), .unset, .unset]) rfl k') ?_
    show Runs p.tables e below _ (T25_.setTop (mkF m 74 #[.val (.int i0), .val (.ref b1), .val (.int (2 : Int32)), .val (.ref ol), .val (.int (1 : Int32)), .val (.ref s2), .val (.int (60 : Int32)), .unset, .unset] []))
    refine Runs.st (fun t' k' => XS.iload X25_.here hx rfl (hb hby at_74) rfl k') ?_
    show Runs p.tables e below _ (T25_.setTop (mkF m 76 #[.val (.int i0), .val (.ref b1), .val (.int (2 : Int32)), .val (.ref ol), .val (.int (1 : Int32)), .val (.ref s2), .val (.int (60 : Int32)), .unset, .unset] [(.int (60 : Int32))]))
    refine Runs.st (fun t' k' => XS.bipush X25_.here hx rfl (hb hby at_76) k') ?_
    show Runs p.tables e below _ (T25_.setTop (mkF m 78 #[.val (.int i0), .val (.ref b1), .val (.int (2 : Int32)), .val (.ref ol), .val (.int (1 : Int32)), .val (.ref s2), .val (.int (60 : Int32)), .unset, .unset] [(.int (60 : Int32)), (.int (60 : Int32))]))
    refine Runs.st (fun t' k' => XS.icmpYes X25_.here hx rfl (pc0 := 78) (pc' := 88) rfl (hb hby at_78) rfl (teq rfl).1 (by decide) (by decide) k') ?_
    show Runs p.tables e below _ (T25_.setTop (mkF m 88 #[.val (.int i0), .val (.ref b1), .val (.int (2 : Int32)), .val (.ref ol), .val (.int (1 : Int32)), .val (.ref s2), .val (.int (60 : Int32)), .unset, .unset] []))
    refine Runs.st (fun t' k' => XS.iconst X25_.here hx rfl (hb hby at_88) k') ?_
    show Runs p.tables e below _ (T25_.setTop (mkF m 89 #[.val (.int i0), .val (.ref b1), .val (.int (2 : Int32)), .val (.ref ol), .val (.int (1 : Int32)), .val (.ref s2), .val (.int (60 : Int32)), .unset, .unset] [(.int (1 : Int32))]))
    refine Runs.st (fun t' k' => XS.goto X25_.here hx rfl (pc0 := 89) (pc' := 93) rfl (hb hby at_89) (by decide) (by decide) k') ?_
    show Runs p.tables e below _ (T25_.setTop (mkF m 93 #[.val (.int i0), .val (.ref b1), .val (.int (2 : Int32)), .val (.ref ol), .val (.int (1 : Int32)), .val (.ref s2), .val (.int (60 : Int32)), .unset, .unset] [(.int (1 : Int32))]))
    refine Runs.st (fun t' k' => XS.istore X25_.here hx rfl (hb hby at_93) rfl (l' := #[.val (.int i0), .val (.ref b1), .val (.int (2 : Int32)), .val (.ref ol), .val (.int (1 : Int32)), .val (.ref s2), .val (.int (60 : Int32)), .val (.int (1 : Int32)), .unset]) rfl k') ?_
    show Runs p.tables e below _ (T25_.setTop (mkF m 95 #[.val (.int i0), .val (.ref b1), .val (.int (2 : Int32)), .val (.ref ol), .val (.int (1 : Int32)), .val (.ref s2), .val (.int (60 : Int32)), .val (.int (1 : Int32)), .unset] []))
    refine Runs.st (fun t' k' => XS.iloadN X25_.here hx rfl (hb hby at_95) rfl k') ?_
    show Runs p.tables e below _ (T25_.setTop (mkF m 96 #[.val (.int i0), .val (.ref b1), .val (.int (2 : Int32)), .val (.ref ol), .val (.int (1 : Int32)), .val (.ref s2), .val (.int (60 : Int32)), .val (.int (1 : Int32)), .unset] [(.int (2 : Int32))]))
    refine Runs.st (fun t' k' => XS.iconst X25_.here hx rfl (hb hby at_96) k') ?_
    show Runs p.tables e below _ (T25_.setTop (mkF m 97 #[.val (.int i0), .val (.ref b1), .val (.int (2 : Int32)), .val (.ref ol), .val (.int (1 : Int32)), .val (.ref s2), .val (.int (60 : Int32)), .val (.int (1 : Int32)), .unset] [(.int (2 : Int32)), (.int (2 : Int32))]))
    refine Runs.st (fun t' k' => XS.icmpNo X25_.here hx rfl (hb hby at_97) rfl (flt (by decide)).1 k') ?_
    show Runs p.tables e below _ (T25_.setTop (mkF m 100 #[.val (.int i0), .val (.ref b1), .val (.int (2 : Int32)), .val (.ref ol), .val (.int (1 : Int32)), .val (.ref s2), .val (.int (60 : Int32)), .val (.int (1 : Int32)), .unset] []))
    refine Runs.st (fun t' k' => XS.iconst X25_.here hx rfl (hb hby at_100) k') ?_
    show Runs p.tables e below _ (T25_.setTop (mkF m 101 #[.val (.int i0), .val (.ref b1), .val (.int (2 : Int32)), .val (.ref ol), .val (.int (1 : Int32)), .val (.ref s2), .val (.int (60 : Int32)), .val (.int (1 : Int32)), .unset] [(.int (1 : Int32))]))
    refine Runs.st (fun t' k' => XS.goto X25_.here hx rfl (pc0 := 101) (pc' := 105) rfl (hb hby at_101) (by decide) (by decide) k') ?_
    show Runs p.tables e below _ (T25_.setTop (mkF m 105 #[.val (.int i0), .val (.ref b1), .val (.int (2 : Int32)), .val (.ref ol), .val (.int (1 : Int32)), .val (.ref s2), .val (.int (60 : Int32)), .val (.int (1 : Int32)), .unset] [(.int (1 : Int32))]))
    refine Runs.st (fun t' k' => XS.istore X25_.here hx rfl (hb hby at_105) rfl (l' := #[.val (.int i0), .val (.ref b1), .val (.int (2 : Int32)), .val (.ref ol), .val (.int (1 : Int32)), .val (.ref s2), .val (.int (60 : Int32)), .val (.int (1 : Int32)), .val (.int (1 : Int32))]) rfl k') ?_
    show Runs p.tables e below _ (T25_.setTop (mkF m 107 #[.val (.int i0), .val (.ref b1), .val (.int (2 : Int32)), .val (.ref ol), .val (.int (1 : Int32)), .val (.ref s2), .val (.int (60 : Int32)), .val (.int (1 : Int32)), .val (.int (1 : Int32))] []))
    refine Runs.st (fun t' k' => XS.iload X25_.here hx rfl (hb hby at_107) rfl k') ?_
    show Runs p.tables e below _ (T25_.setTop (mkF m 109 #[.val (.int i0), .val (.ref b1), .val (.int (2 : Int32)), .val (.ref ol), .val (.int (1 : Int32)), .val (.ref s2), .val (.int (60 : Int32)), .val (.int (1 : Int32)), .val (.int (1 : Int32))] [(.int (1 : Int32))]))
    refine Runs.st (fun t' k' => XS.iload X25_.here hx rfl (hb hby at_109) rfl k') ?_
    show Runs p.tables e below _ (T25_.setTop (mkF m 111 #[.val (.int i0), .val (.ref b1), .val (.int (2 : Int32)), .val (.ref ol), .val (.int (1 : Int32)), .val (.ref s2), .val (.int (60 : Int32)), .val (.int (1 : Int32)), .val (.int (1 : Int32))] [(.int (1 : Int32)), (.int (1 : Int32))]))
    refine Runs.st (fun t' k' => XS.icmpNo X25_.here hx rfl (hb hby at_111) rfl (teq rfl).2 k') ?_
    show Runs p.tables e below _ (T25_.setTop (mkF m 114 #[.val (.int i0), .val (.ref b1), .val (.int (2 : Int32)), .val (.ref ol), .val (.int (1 : Int32)), .val (.ref s2), .val (.int (60 : Int32)), .val (.int (1 : Int32)), .val (.int (1 : Int32))] []))
    refine Runs.st (fun t' k' => XS.iload X25_.here hx rfl (hb hby at_114) rfl k') ?_
    show Runs p.tables e below _ (T25_.setTop (mkF m 116 #[.val (.int i0), .val (.ref b1), .val (.int (2 : Int32)), .val (.ref ol), .val (.int (1 : Int32)), .val (.ref s2), .val (.int (60 : Int32)), .val (.int (1 : Int32)), .val (.int (1 : Int32))] [(.int (1 : Int32))]))
    refine Runs.st (fun t' k' => XS.iload X25_.here hx rfl (hb hby at_116) rfl k') ?_
    show Runs p.tables e below _ (T25_.setTop (mkF m 118 #[.val (.int i0), .val (.ref b1), .val (.int (2 : Int32)), .val (.ref ol), .val (.int (1 : Int32)), .val (.ref s2), .val (.int (60 : Int32)), .val (.int (1 : Int32)), .val (.int (1 : Int32))] [(.int (1 : Int32)), (.int (1 : Int32))]))
    refine Runs.st (fun t' k' => XS.icmpNo X25_.here hx rfl (hb hby at_118) rfl (teq rfl).2 k') ?_
    show Runs p.tables e below _ (T25_.setTop (mkF m 121 #[.val (.int i0), .val (.ref b1), .val (.int (2 : Int32)), .val (.ref ol), .val (.int (1 : Int32)), .val (.ref s2), .val (.int (60 : Int32)), .val (.int (1 : Int32)), .val (.int (1 : Int32))] []))
    refine Runs.st (fun t' k' => XS.iconst X25_.here hx rfl (hb hby at_121) k') ?_
    show Runs p.tables e below _ (T25_.setTop (mkF m 122 #[.val (.int i0), .val (.ref b1), .val (.int (2 : Int32)), .val (.ref ol), .val (.int (1 : Int32)), .val (.ref s2), .val (.int (60 : Int32)), .val (.int (1 : Int32)), .val (.int (1 : Int32))] [(.int (1 : Int32))]))
    refine Runs.st (fun t' k' => XS.goto X25_.here hx rfl (pc0 := 122) (pc' := 126) rfl (hb hby at_122) (by decide) (by decide) k') ?_
    show Runs p.tables e below _ (T25_.setTop (mkF m 126 #[.val (.int i0), .val (.ref b1), .val (.int (2 : Int32)), .val (.ref ol), .val (.int (1 : Int32)), .val (.ref s2), .val (.int (60 : Int32)), .val (.int (1 : Int32)), .val (.int (1 : Int32))] [(.int (1 : Int32))]))
    refine Runs.ret X25_ hlk (v := (some (.int (1 : Int32)))) (fun h => by rw [hret] at h; cases h) (by decide) (by decide) ?_ (fun fs hr => retN X25_ hx (t := .boolean) hret (by simp) (hb hby at_126) hr)
    try rw [e25_]
    exact ⟨rfl, N25_⟩
  · skip
    rw [hj]
    show Runs p.tables e below _ (T13_.setTop (mkF m 49 #[.val (.int i0), .val (.ref b1), .unset, .unset, .unset, .unset, .unset, .unset, .unset] [(.int (3 : Int32))]))
    refine Runs.st (fun t' k' => XS.istoreN X13_.here hx rfl (hb hby at_49) rfl (l' := #[.val (.int i0), .val (.ref b1), .val (.int (3 : Int32)), .unset, .unset, .unset, .unset, .unset, .unset]) rfl k') ?_
    show Runs p.tables e below _ (T13_.setTop (mkF m 50 #[.val (.int i0), .val (.ref b1), .val (.int (3 : Int32)), .unset, .unset, .unset, .unset, .unset, .unset] []))
    refine Runs.st (fun t' k' => XS.aloadN X13_.here hx rfl (hb hby at_50) rfl rfl k') ?_
    show Runs p.tables e below _ (T13_.setTop (mkF m 51 #[.val (.int i0), .val (.ref b1), .val (.int (3 : Int32)), .unset, .unset, .unset, .unset, .unset, .unset] [(.ref b1)]))
    refine Runs.st (fun t' k' => XS.iloadN X13_.here hx rfl (hb hby at_51) rfl k') ?_
    show Runs p.tables e below _ (T13_.setTop (mkF m 52 #[.val (.int i0), .val (.ref b1), .val (.int (3 : Int32)), .unset, .unset, .unset, .unset, .unset, .unset] [(.int (3 : Int32)), (.ref b1)]))
    obtain ⟨cl26_, Ar26_, -, S26_, M26_, Ha26_, -⟩ := id V_b1
    have hin26_ : ¬ ((3 : Int32) < 0 ∨ cl26_.slots.size ≤ ((3 : Int32)).toNatClampNeg) := inb_of S26_ ⟨by decide, by decide⟩
    refine Runs.st (X13_.aaload hx (j := (3 : Int32)) (v := (.ref ole)) (by rw [e13_]; exact Ar26_.1) (State.isArrayOf_alike hZ.alike Ar26_.2.1) rfl Ar26_.2.2 hin26_ (Ha26_.at hin26_ rfl) (g := (mkF m 52 #[.val (.int i0), .val (.ref b1), .val (.int (3 : Int32)), .unset, .unset, .unset, .unset, .unset, .unset] [(.int (3 : Int32)), (.ref b1)])) rfl rfl (hb hby at_52)) ?_
    show Runs p.tables e below _ (T13_.setTop (mkF m 53 #[.val (.int i0), .val (.ref b1), .val (.int (3 : Int32)), .unset, .unset, .unset, .unset, .unset, .unset] [(.ref ole)]))
    refine Runs.st (fun t' k' => XS.astoreN X13_.here hx rfl (hb hby at_53) rfl rfl (l' := #[.val (.int i0), .val (.ref b1), .val (.int (3 : Int32)), .val (.ref ole), .unset, .unset, .unset, .unset, .unset]) rfl k') ?_
    show Runs p.tables e below _ (T13_.setTop (mkF m 54 #[.val (.int i0), .val (.ref b1), .val (.int (3 : Int32)), .val (.ref ole), .unset, .unset, .unset, .unset, .unset] []))
    refine Runs.st (fun t' k' => XS.aloadN X13_.here hx rfl (hb hby at_54) rfl rfl k') ?_
    show Runs p.tables e below _ (T13_.setTop (mkF m 55 #[.val (.int i0), .val (.ref b1), .val (.int (3 : Int32)), .val (.ref ole), .unset, .unset, .unset, .unset, .unset] [(.ref ole)]))
    obtain ⟨cq27_, kq27_, q27_a, q27_b, q27_c⟩ := isOf hZ e13_ (E3.ext old.2)
    obtain ⟨_, _, ⟨T27_, L27_, k27_, n27_⟩, -, X27_, ⟨Lc27_, hQ27_, l27_, y27_, z27_⟩, st27_⟩ := X13_.virtualBack hx (y := (⟨"com/example/final_marking/finalmarking/net/Guard$Operator", "orders", "()Z"⟩ : MethodName)) (z := (⟨"com/example/final_marking/finalmarking/net/Guard$Operator", "orders", "()Z"⟩ : MethodName)) hown (mvT hZ (hw _ (List.mem_of_getElem? (i := 17) rfl))) (mvT hZ (hw _ (List.mem_of_getElem? (i := 18) rfl))) (notFace_of_selects (args := #[]) (mvT hZ (hw _ (List.mem_of_getElem? (i := 20) rfl)))) (mvT hZ (hw _ (List.mem_of_getElem? (i := 20) rfl))) (mvT hZ (hw _ (List.mem_of_getElem? (i := 19) rfl))) (by decide) (backOf (W := 0) (rmOrd l Z a0 hw [] ole oe one (1 : Int32) h13_ n0 sz (S0.ext old.2) (S1.ext old.2) (Or.inr ⟨⟨neq O3 O0 (by decide), neq O3 O1 (by decide)⟩, rfl⟩)) hZ (hw _ (List.mem_of_getElem? (i := 21) rfl)) (hw _ (List.mem_of_getElem? (i := 3) rfl)) (by decide) (by decide)) q27_a q27_c (g := (mkF m 55 #[.val (.int i0), .val (.ref b1), .val (.int (3 : Int32)), .val (.ref ole), .unset, .unset, .unset, .unset, .unset] [(.ref ole)])) rfl (by rw [hml]; rfl) (Steps.refl _) (argsL := []) (rest := []) (lenOf pd__28_29Z rfl) rfl (by show 2 * 0 + _ ≤ _; exact Nat.le_of_eq rfl) (hb hby at_55) (fun _ _ => ⟨rfl, e13_, (by decide : 1 + 0 ≤ _), (by decide : 6 + 0 ≤ _)⟩)
    dsimp only [Pt.U, Pt.locs, Pt.cells, Pt.slots] at X27_ l27_ y27_ z27_ st27_ hQ27_
    subst l27_ y27_ z27_
    obtain ⟨rfl, N27_q, e27_⟩ := hQ27_
    have N27_ := Fr.app N13_ N27_q
    refine Runs.tr st27_ ?_
    replace X27_ := wider X27_ (c' := 1) (s' := 6) (by decide) (by decide)
    show Runs p.tables e below _ (T27_.setTop (mkF m 58 #[.val (.int i0), .val (.ref b1), .val (.int (3 : Int32)), .val (.ref ole), .unset, .unset, .unset, .unset, .unset] [(.int (1 : Int32))]))
    refine Runs.st (fun t' k' => XS.istore X27_.here hx rfl (hb hby at_58) rfl (l' := #[.val (.int i0), .val (.ref b1), .val (.int (3 : Int32)), .val (.ref ole), .val (.int (1 : Int32)), .unset, .unset, .unset, .unset]) rfl k') ?_
    show Runs p.tables e below _ (T27_.setTop (mkF m 60 #[.val (.int i0), .val (.ref b1), .val (.int (3 : Int32)), .val (.ref ole), .val (.int (1 : Int32)), .unset, .unset, .unset, .unset] []))
    refine Runs.st (fun t' k' => XS.aloadN X27_.here hx rfl (hb hby at_60) rfl rfl k') ?_
    show Runs p.tables e below _ (T27_.setTop (mkF m 61 #[.val (.int i0), .val (.ref b1), .val (.int (3 : Int32)), .val (.ref ole), .val (.int (1 : Int32)), .unset, .unset, .unset, .unset] [(.ref ole)]))
    obtain ⟨cq28_, kq28_, q28_a, q28_b, q28_c⟩ := isOf hZ e27_ (E3.ext old.2)
    obtain ⟨_, _, ⟨T28_, L28_, k28_, n28_⟩, -, X28_, ⟨Lc28_, hQ28_, l28_, y28_, z28_⟩, st28_⟩ := X27_.virtualBack hx (y := (⟨"com/example/final_marking/finalmarking/net/Guard$Operator", "symbol", "()Ljava/lang/String;"⟩ : MethodName)) (z := (⟨"com/example/final_marking/finalmarking/net/Guard$Operator", "symbol", "()Ljava/lang/String;"⟩ : MethodName)) hown (mvT hZ (hw _ (List.mem_of_getElem? (i := 23) rfl))) (mvT hZ (hw _ (List.mem_of_getElem? (i := 24) rfl))) (notFace_of_selects (args := #[]) (mvT hZ (hw _ (List.mem_of_getElem? (i := 26) rfl)))) (mvT hZ (hw _ (List.mem_of_getElem? (i := 26) rfl))) (mvT hZ (hw _ (List.mem_of_getElem? (i := 25) rfl))) (by decide) (backOf (W := 0) (rmSym l Z a0 hw [] ole s3 h13_ n0 sz (Fs3.ext old.2)) hZ (hw _ (List.mem_of_getElem? (i := 27) rfl)) (hw _ (List.mem_of_getElem? (i := 3) rfl)) (by decide) (by decide)) q28_a q28_c (g := (mkF m 61 #[.val (.int i0), .val (.ref b1), .val (.int (3 : Int32)), .val (.ref ole), .val (.int (1 : Int32)), .unset, .unset, .unset, .unset] [(.ref ole)])) rfl (by rw [hml]; rfl) (Steps.refl _) (argsL := []) (rest := []) (lenOf pd__28_29Ljava_2flang_2fString_3b rfl) rfl (by show 2 * 0 + _ ≤ _; exact Nat.le_of_eq rfl) (hb hby at_61) (fun _ _ => ⟨rfl, e27_, (by decide : 1 + 0 ≤ _), (by decide : 6 + 0 ≤ _)⟩)
    dsimp only [Pt.U, Pt.locs, Pt.cells, Pt.slots] at X28_ l28_ y28_ z28_ st28_ hQ28_
    subst l28_ y28_ z28_
    obtain ⟨rfl, N28_q, e28_⟩ := hQ28_
    have N28_ := Fr.app N27_ N28_q
    refine Runs.tr st28_ ?_
    replace X28_ := wider X28_ (c' := 1) (s' := 6) (by decide) (by decide)
    show Runs p.tables e below _ (T28_.setTop (mkF m 64 #[.val (.int i0), .val (.ref b1), .val (.int (3 : Int32)), .val (.ref ole), .val (.int (1 : Int32)), .unset, .unset, .unset, .unset] [(.ref s3)]))
    refine Runs.st (fun t' k' => XS.astore X28_.here hx rfl (hb hby at_64) rfl rfl (l' := #[.val (.int i0), .val (.ref b1), .val (.int (3 : Int32)), .val (.ref ole), .val (.int (1 : Int32)), .val (.ref s3), .unset, .unset, .unset]) rfl k') ?_
    show Runs p.tables e below _ (T28_.setTop (mkF m 66 #[.val (.int i0), .val (.ref b1), .val (.int (3 : Int32)), .val (.ref ole), .val (.int (1 : Int32)), .val (.ref s3), .unset, .unset, .unset] []))
    refine Runs.st (fun t' k' => XS.aload X28_.here hx rfl (hb hby at_66) rfl rfl k') ?_
    show Runs p.tables e below _ (T28_.setTop (mkF m 68 #[.val (.int i0), .val (.ref b1), .val (.int (3 : Int32)), .val (.ref ole), .val (.int (1 : Int32)), .val (.ref s3), .unset, .unset, .unset] [(.ref s3)]))
    refine Runs.st (fun t' k' => XS.iconst X28_.here hx rfl (hb hby at_68) k') ?_
    show Runs p.tables e below _ (T28_.setTop (mkF m 69 #[.val (.int i0), .val (.ref b1), .val (.int (3 : Int32)), .val (.ref ole), .val (.int (1 : Int32)), .val (.ref s3), .unset, .unset, .unset] [(.int (0 : Int32)), (.ref s3)]))
    obtain ⟨cq29_, kq29_, q29_a, q29_b, q29_c⟩ := isOf hZ e28_ (Es3.ext old.2)
    obtain ⟨_, _, ⟨T29_, L29_, k29_, n29_⟩, -, X29_, ⟨Lc29_, hQ29_, l29_, y29_, z29_⟩, st29_⟩ := X28_.virtualBack hx (y := (⟨"java/lang/String", "charAt", "(I)C"⟩ : MethodName)) (z := (⟨"java/lang/String", "charAt", "(I)C"⟩ : MethodName)) hown (mvT hZ (hw _ (List.mem_of_getElem? (i := 30) rfl))) (mvT hZ (hw _ (List.mem_of_getElem? (i := 31) rfl))) (notFace_of_selects (args := #[]) (mvT hZ (hw _ (List.mem_of_getElem? (i := 33) rfl)))) (mvT hZ (hw _ (List.mem_of_getElem? (i := 33) rfl))) (mvT hZ (hw _ (List.mem_of_getElem? (i := 32) rfl))) (by decide) (backOf (W := 0) (rmCh l Z a0 hw [] s3 (0 : Int32) zc v3 (2 : Int32) kq3 _ (60 : Int32) fm (60 : Int32) h13_ n0 sz (Es3.ext old.2) (Sc.ext old.2) hzc (Fc3.ext old.2) (Fv3.ext old.2) (V3.ext old.2) (Sf.ext old.2) hfm (by decide) (by decide) rfl (by decide)) hZ (hw _ (List.mem_of_getElem? (i := 35) rfl)) (hw _ (List.mem_of_getElem? (i := 34) rfl)) (by decide) (by decide)) q29_a q29_c (g := (mkF m 69 #[.val (.int i0), .val (.ref b1), .val (.int (3 : Int32)), .val (.ref ole), .val (.int (1 : Int32)), .val (.ref s3), .unset, .unset, .unset] [(.int (0 : Int32)), (.ref s3)])) rfl (by rw [hml]; rfl) (Steps.refl _) (argsL := [(.int (0 : Int32))]) (rest := []) (lenOf pd__28I_29C rfl) rfl (by show 2 * 0 + _ ≤ _; exact Nat.le_of_eq rfl) (hb hby at_69) (fun _ _ => ⟨rfl, e28_, (by decide : 1 + 0 ≤ _), (by decide : 6 + 0 ≤ _)⟩)
    dsimp only [Pt.U, Pt.locs, Pt.cells, Pt.slots] at X29_ l29_ y29_ z29_ st29_ hQ29_
    subst l29_ y29_ z29_
    obtain ⟨rfl, N29_q, e29_⟩ := hQ29_
    have N29_ := Fr.app N28_ N29_q
    refine Runs.tr st29_ ?_
    replace X29_ := wider X29_ (c' := 1) (s' := 6) (by decide) (by decide)
    show Runs p.tables e below _ (T29_.setTop (mkF m 72 #[.val (.int i0), .val (.ref b1), .val (.int (3 : Int32)), .val (.ref ole), .val (.int (1 : Int32)), .val (.ref s3), .unset, .unset, .unset] [(.int (60 : Int32))]))
    refine Runs.st (fun t' k' => XS.istore X29_.here hx rfl (hb hby at_72) rfl (l' := #[.val (.int i0), .val (.ref b1), .val (.int (3 : Int32)), .val (.ref ole), .val (.int (1 : Int32)), .val (.ref s3), .val (.int (60 : Int32)), .unset, .unset]) rfl k') ?_
    show Runs p.tables e below _ (T29_.setTop (mkF m 74 #[.val (.int i0), .val (.ref b1), .val (.int (3 : Int32)), .val (.ref ole), .val (.int (1 : Int32)), .val (.ref s3), .val (.int (60 : Int32)), .unset, .unset] []))
    refine Runs.st (fun t' k' => XS.iload X29_.here hx rfl (hb hby at_74) rfl k') ?_
    show Runs p.tables e below _ (T29_.setTop (mkF m 76 #[.val (.int i0), .val (.ref b1), .val (.int (3 : Int32)), .val (.ref ole), .val (.int (1 : Int32)), .val (.ref s3), .val (.int (60 : Int32)), .unset, .unset] [(.int (60 : Int32))]))
    refine Runs.st (fun t' k' => XS.bipush X29_.here hx rfl (hb hby at_76) k') ?_
    show Runs p.tables e below _ (T29_.setTop (mkF m 78 #[.val (.int i0), .val (.ref b1), .val (.int (3 : Int32)), .val (.ref ole), .val (.int (1 : Int32)), .val (.ref s3), .val (.int (60 : Int32)), .unset, .unset] [(.int (60 : Int32)), (.int (60 : Int32))]))
    refine Runs.st (fun t' k' => XS.icmpYes X29_.here hx rfl (pc0 := 78) (pc' := 88) rfl (hb hby at_78) rfl (teq rfl).1 (by decide) (by decide) k') ?_
    show Runs p.tables e below _ (T29_.setTop (mkF m 88 #[.val (.int i0), .val (.ref b1), .val (.int (3 : Int32)), .val (.ref ole), .val (.int (1 : Int32)), .val (.ref s3), .val (.int (60 : Int32)), .unset, .unset] []))
    refine Runs.st (fun t' k' => XS.iconst X29_.here hx rfl (hb hby at_88) k') ?_
    show Runs p.tables e below _ (T29_.setTop (mkF m 89 #[.val (.int i0), .val (.ref b1), .val (.int (3 : Int32)), .val (.ref ole), .val (.int (1 : Int32)), .val (.ref s3), .val (.int (60 : Int32)), .unset, .unset] [(.int (1 : Int32))]))
    refine Runs.st (fun t' k' => XS.goto X29_.here hx rfl (pc0 := 89) (pc' := 93) rfl (hb hby at_89) (by decide) (by decide) k') ?_
    show Runs p.tables e below _ (T29_.setTop (mkF m 93 #[.val (.int i0), .val (.ref b1), .val (.int (3 : Int32)), .val (.ref ole), .val (.int (1 : Int32)), .val (.ref s3), .val (.int (60 : Int32)), .unset, .unset] [(.int (1 : Int32))]))
    refine Runs.st (fun t' k' => XS.istore X29_.here hx rfl (hb hby at_93) rfl (l' := #[.val (.int i0), .val (.ref b1), .val (.int (3 : Int32)), .val (.ref ole), .val (.int (1 : Int32)), .val (.ref s3), .val (.int (60 : Int32)), .val (.int (1 : Int32)), .unset]) rfl k') ?_
    show Runs p.tables e below _ (T29_.setTop (mkF m 95 #[.val (.int i0), .val (.ref b1), .val (.int (3 : Int32)), .val (.ref ole), .val (.int (1 : Int32)), .val (.ref s3), .val (.int (60 : Int32)), .val (.int (1 : Int32)), .unset] []))
    refine Runs.st (fun t' k' => XS.iloadN X29_.here hx rfl (hb hby at_95) rfl k') ?_
    show Runs p.tables e below _ (T29_.setTop (mkF m 96 #[.val (.int i0), .val (.ref b1), .val (.int (3 : Int32)), .val (.ref ole), .val (.int (1 : Int32)), .val (.ref s3), .val (.int (60 : Int32)), .val (.int (1 : Int32)), .unset] [(.int (3 : Int32))]))
    refine Runs.st (fun t' k' => XS.iconst X29_.here hx rfl (hb hby at_96) k') ?_
    show Runs p.tables e below _ (T29_.setTop (mkF m 97 #[.val (.int i0), .val (.ref b1), .val (.int (3 : Int32)), .val (.ref ole), .val (.int (1 : Int32)), .val (.ref s3), .val (.int (60 : Int32)), .val (.int (1 : Int32)), .unset] [(.int (2 : Int32)), (.int (3 : Int32))]))
    refine Runs.st (fun t' k' => XS.icmpNo X29_.here hx rfl (hb hby at_97) rfl (flt (by decide)).1 k') ?_
    show Runs p.tables e below _ (T29_.setTop (mkF m 100 #[.val (.int i0), .val (.ref b1), .val (.int (3 : Int32)), .val (.ref ole), .val (.int (1 : Int32)), .val (.ref s3), .val (.int (60 : Int32)), .val (.int (1 : Int32)), .unset] []))
    refine Runs.st (fun t' k' => XS.iconst X29_.here hx rfl (hb hby at_100) k') ?_
    show Runs p.tables e below _ (T29_.setTop (mkF m 101 #[.val (.int i0), .val (.ref b1), .val (.int (3 : Int32)), .val (.ref ole), .val (.int (1 : Int32)), .val (.ref s3), .val (.int (60 : Int32)), .val (.int (1 : Int32)), .unset] [(.int (1 : Int32))]))
    refine Runs.st (fun t' k' => XS.goto X29_.here hx rfl (pc0 := 101) (pc' := 105) rfl (hb hby at_101) (by decide) (by decide) k') ?_
    show Runs p.tables e below _ (T29_.setTop (mkF m 105 #[.val (.int i0), .val (.ref b1), .val (.int (3 : Int32)), .val (.ref ole), .val (.int (1 : Int32)), .val (.ref s3), .val (.int (60 : Int32)), .val (.int (1 : Int32)), .unset] [(.int (1 : Int32))]))
    refine Runs.st (fun t' k' => XS.istore X29_.here hx rfl (hb hby at_105) rfl (l' := #[.val (.int i0), .val (.ref b1), .val (.int (3 : Int32)), .val (.ref ole), .val (.int (1 : Int32)), .val (.ref s3), .val (.int (60 : Int32)), .val (.int (1 : Int32)), .val (.int (1 : Int32))]) rfl k') ?_
    show Runs p.tables e below _ (T29_.setTop (mkF m 107 #[.val (.int i0), .val (.ref b1), .val (.int (3 : Int32)), .val (.ref ole), .val (.int (1 : Int32)), .val (.ref s3), .val (.int (60 : Int32)), .val (.int (1 : Int32)), .val (.int (1 : Int32))] []))
    refine Runs.st (fun t' k' => XS.iload X29_.here hx rfl (hb hby at_107) rfl k') ?_
    show Runs p.tables e below _ (T29_.setTop (mkF m 109 #[.val (.int i0), .val (.ref b1), .val (.int (3 : Int32)), .val (.ref ole), .val (.int (1 : Int32)), .val (.ref s3), .val (.int (60 : Int32)), .val (.int (1 : Int32)), .val (.int (1 : Int32))] [(.int (1 : Int32))]))
    refine Runs.st (fun t' k' => XS.iload X29_.here hx rfl (hb hby at_109) rfl k') ?_
    show Runs p.tables e below _ (T29_.setTop (mkF m 111 #[.val (.int i0), .val (.ref b1), .val (.int (3 : Int32)), .val (.ref ole), .val (.int (1 : Int32)), .val (.ref s3), .val (.int (60 : Int32)), .val (.int (1 : Int32)), .val (.int (1 : Int32))] [(.int (1 : Int32)), (.int (1 : Int32))]))
    refine Runs.st (fun t' k' => XS.icmpNo X29_.here hx rfl (hb hby at_111) rfl (teq rfl).2 k') ?_
    show Runs p.tables e below _ (T29_.setTop (mkF m 114 #[.val (.int i0), .val (.ref b1), .val (.int (3 : Int32)), .val (.ref ole), .val (.int (1 : Int32)), .val (.ref s3), .val (.int (60 : Int32)), .val (.int (1 : Int32)), .val (.int (1 : Int32))] []))
    refine Runs.st (fun t' k' => XS.iload X29_.here hx rfl (hb hby at_114) rfl k') ?_
    show Runs p.tables e below _ (T29_.setTop (mkF m 116 #[.val (.int i0), .val (.ref b1), .val (.int (3 : Int32)), .val (.ref ole), .val (.int (1 : Int32)), .val (.ref s3), .val (.int (60 : Int32)), .val (.int (1 : Int32)), .val (.int (1 : Int32))] [(.int (1 : Int32))]))
    refine Runs.st (fun t' k' => XS.iload X29_.here hx rfl (hb hby at_116) rfl k') ?_
    show Runs p.tables e below _ (T29_.setTop (mkF m 118 #[.val (.int i0), .val (.ref b1), .val (.int (3 : Int32)), .val (.ref ole), .val (.int (1 : Int32)), .val (.ref s3), .val (.int (60 : Int32)), .val (.int (1 : Int32)), .val (.int (1 : Int32))] [(.int (1 : Int32)), (.int (1 : Int32))]))
    refine Runs.st (fun t' k' => XS.icmpNo X29_.here hx rfl (hb hby at_118) rfl (teq rfl).2 k') ?_
    show Runs p.tables e below _ (T29_.setTop (mkF m 121 #[.val (.int i0), .val (.ref b1), .val (.int (3 : Int32)), .val (.ref ole), .val (.int (1 : Int32)), .val (.ref s3), .val (.int (60 : Int32)), .val (.int (1 : Int32)), .val (.int (1 : Int32))] []))
    refine Runs.st (fun t' k' => XS.iconst X29_.here hx rfl (hb hby at_121) k') ?_
    show Runs p.tables e below _ (T29_.setTop (mkF m 122 #[.val (.int i0), .val (.ref b1), .val (.int (3 : Int32)), .val (.ref ole), .val (.int (1 : Int32)), .val (.ref s3), .val (.int (60 : Int32)), .val (.int (1 : Int32)), .val (.int (1 : Int32))] [(.int (1 : Int32))]))
    refine Runs.st (fun t' k' => XS.goto X29_.here hx rfl (pc0 := 122) (pc' := 126) rfl (hb hby at_122) (by decide) (by decide) k') ?_
    show Runs p.tables e below _ (T29_.setTop (mkF m 126 #[.val (.int i0), .val (.ref b1), .val (.int (3 : Int32)), .val (.ref ole), .val (.int (1 : Int32)), .val (.ref s3), .val (.int (60 : Int32)), .val (.int (1 : Int32)), .val (.int (1 : Int32))] [(.int (1 : Int32))]))
    refine Runs.ret X29_ hlk (v := (some (.int (1 : Int32)))) (fun h => by rw [hret] at h; cases h) (by decide) (by decide) ?_ (fun fs hr => retN X29_ hx (t := .boolean) hret (by simp) (hb hby at_126) hr)
    try rw [e29_]
    exact ⟨rfl, N29_⟩
  · skip
    rw [hj]
    show Runs p.tables e below _ (T13_.setTop (mkF m 49 #[.val (.int i0), .val (.ref b1), .unset, .unset, .unset, .unset, .unset, .unset, .unset] [(.int (4 : Int32))]))
    refine Runs.st (fun t' k' => XS.istoreN X13_.here hx rfl (hb hby at_49) rfl (l' := #[.val (.int i0), .val (.ref b1), .val (.int (4 : Int32)), .unset, .unset, .unset, .unset, .unset, .unset]) rfl k') ?_
    show Runs p.tables e below _ (T13_.setTop (mkF m 50 #[.val (.int i0), .val (.ref b1), .val (.int (4 : Int32)), .unset, .unset, .unset, .unset, .unset, .unset] []))
    refine Runs.st (fun t' k' => XS.aloadN X13_.here hx rfl (hb hby at_50) rfl rfl k') ?_
    show Runs p.tables e below _ (T13_.setTop (mkF m 51 #[.val (.int i0), .val (.ref b1), .val (.int (4 : Int32)), .unset, .unset, .unset, .unset, .unset, .unset] [(.ref b1)]))
    refine Runs.st (fun t' k' => XS.iloadN X13_.here hx rfl (hb hby at_51) rfl k') ?_
    show Runs p.tables e below _ (T13_.setTop (mkF m 52 #[.val (.int i0), .val (.ref b1), .val (.int (4 : Int32)), .unset, .unset, .unset, .unset, .unset, .unset] [(.int (4 : Int32)), (.ref b1)]))
    obtain ⟨cl30_, Ar30_, -, S30_, M30_, Ha30_, -⟩ := id V_b1
    have hin30_ : ¬ ((4 : Int32) < 0 ∨ cl30_.slots.size ≤ ((4 : Int32)).toNatClampNeg) := inb_of S30_ ⟨by decide, by decide⟩
    refine Runs.st (X13_.aaload hx (j := (4 : Int32)) (v := (.ref og)) (by rw [e13_]; exact Ar30_.1) (State.isArrayOf_alike hZ.alike Ar30_.2.1) rfl Ar30_.2.2 hin30_ (Ha30_.at hin30_ rfl) (g := (mkF m 52 #[.val (.int i0), .val (.ref b1), .val (.int (4 : Int32)), .unset, .unset, .unset, .unset, .unset, .unset] [(.int (4 : Int32)), (.ref b1)])) rfl rfl (hb hby at_52)) ?_
    show Runs p.tables e below _ (T13_.setTop (mkF m 53 #[.val (.int i0), .val (.ref b1), .val (.int (4 : Int32)), .unset, .unset, .unset, .unset, .unset, .unset] [(.ref og)]))
    refine Runs.st (fun t' k' => XS.astoreN X13_.here hx rfl (hb hby at_53) rfl rfl (l' := #[.val (.int i0), .val (.ref b1), .val (.int (4 : Int32)), .val (.ref og), .unset, .unset, .unset, .unset, .unset]) rfl k') ?_
    show Runs p.tables e below _ (T13_.setTop (mkF m 54 #[.val (.int i0), .val (.ref b1), .val (.int (4 : Int32)), .val (.ref og), .unset, .unset, .unset, .unset, .unset] []))
    refine Runs.st (fun t' k' => XS.aloadN X13_.here hx rfl (hb hby at_54) rfl rfl k') ?_
    show Runs p.tables e below _ (T13_.setTop (mkF m 55 #[.val (.int i0), .val (.ref b1), .val (.int (4 : Int32)), .val (.ref og), .unset, .unset, .unset, .unset, .unset] [(.ref og)]))
    obtain ⟨cq31_, kq31_, q31_a, q31_b, q31_c⟩ := isOf hZ e13_ (E4.ext old.2)
    obtain ⟨_, _, ⟨T31_, L31_, k31_, n31_⟩, -, X31_, ⟨Lc31_, hQ31_, l31_, y31_, z31_⟩, st31_⟩ := X13_.virtualBack hx (y := (⟨"com/example/final_marking/finalmarking/net/Guard$Operator", "orders", "()Z"⟩ : MethodName)) (z := (⟨"com/example/final_marking/finalmarking/net/Guard$Operator", "orders", "()Z"⟩ : MethodName)) hown (mvT hZ (hw _ (List.mem_of_getElem? (i := 17) rfl))) (mvT hZ (hw _ (List.mem_of_getElem? (i := 18) rfl))) (notFace_of_selects (args := #[]) (mvT hZ (hw _ (List.mem_of_getElem? (i := 20) rfl)))) (mvT hZ (hw _ (List.mem_of_getElem? (i := 20) rfl))) (mvT hZ (hw _ (List.mem_of_getElem? (i := 19) rfl))) (by decide) (backOf (W := 0) (rmOrd l Z a0 hw [] og oe one (1 : Int32) h13_ n0 sz (S0.ext old.2) (S1.ext old.2) (Or.inr ⟨⟨neq O4 O0 (by decide), neq O4 O1 (by decide)⟩, rfl⟩)) hZ (hw _ (List.mem_of_getElem? (i := 21) rfl)) (hw _ (List.mem_of_getElem? (i := 3) rfl)) (by decide) (by decide)) q31_a q31_c (g := (mkF m 55 #[.val (.int i0), .val (.ref b1), .val (.int (4 : Int32)), .val (.ref og), .unset, .unset, .unset, .unset, .unset] [(.ref og)])) rfl (by rw [hml]; rfl) (Steps.refl _) (argsL := []) (rest := []) (lenOf pd__28_29Z rfl) rfl (by show 2 * 0 + _ ≤ _; exact Nat.le_of_eq rfl) (hb hby at_55) (fun _ _ => ⟨rfl, e13_, (by decide : 1 + 0 ≤ _), (by decide : 6 + 0 ≤ _)⟩)
    dsimp only [Pt.U, Pt.locs, Pt.cells, Pt.slots] at X31_ l31_ y31_ z31_ st31_ hQ31_
    subst l31_ y31_ z31_
    obtain ⟨rfl, N31_q, e31_⟩ := hQ31_
    have N31_ := Fr.app N13_ N31_q
    refine Runs.tr st31_ ?_
    replace X31_ := wider X31_ (c' := 1) (s' := 6) (by decide) (by decide)
    show Runs p.tables e below _ (T31_.setTop (mkF m 58 #[.val (.int i0), .val (.ref b1), .val (.int (4 : Int32)), .val (.ref og), .unset, .unset, .unset, .unset, .unset] [(.int (1 : Int32))]))
    refine Runs.st (fun t' k' => XS.istore X31_.here hx rfl (hb hby at_58) rfl (l' := #[.val (.int i0), .val (.ref b1), .val (.int (4 : Int32)), .val (.ref og), .val (.int (1 : Int32)), .unset, .unset, .unset, .unset]) rfl k') ?_
    show Runs p.tables e below _ (T31_.setTop (mkF m 60 #[.val (.int i0), .val (.ref b1), .val (.int (4 : Int32)), .val (.ref og), .val (.int (1 : Int32)), .unset, .unset, .unset, .unset] []))
    refine Runs.st (fun t' k' => XS.aloadN X31_.here hx rfl (hb hby at_60) rfl rfl k') ?_
    show Runs p.tables e below _ (T31_.setTop (mkF m 61 #[.val (.int i0), .val (.ref b1), .val (.int (4 : Int32)), .val (.ref og), .val (.int (1 : Int32)), .unset, .unset, .unset, .unset] [(.ref og)]))
    obtain ⟨cq32_, kq32_, q32_a, q32_b, q32_c⟩ := isOf hZ e31_ (E4.ext old.2)
    obtain ⟨_, _, ⟨T32_, L32_, k32_, n32_⟩, -, X32_, ⟨Lc32_, hQ32_, l32_, y32_, z32_⟩, st32_⟩ := X31_.virtualBack hx (y := (⟨"com/example/final_marking/finalmarking/net/Guard$Operator", "symbol", "()Ljava/lang/String;"⟩ : MethodName)) (z := (⟨"com/example/final_marking/finalmarking/net/Guard$Operator", "symbol", "()Ljava/lang/String;"⟩ : MethodName)) hown (mvT hZ (hw _ (List.mem_of_getElem? (i := 23) rfl))) (mvT hZ (hw _ (List.mem_of_getElem? (i := 24) rfl))) (notFace_of_selects (args := #[]) (mvT hZ (hw _ (List.mem_of_getElem? (i := 26) rfl)))) (mvT hZ (hw _ (List.mem_of_getElem? (i := 26) rfl))) (mvT hZ (hw _ (List.mem_of_getElem? (i := 25) rfl))) (by decide) (backOf (W := 0) (rmSym l Z a0 hw [] og s4 h13_ n0 sz (Fs4.ext old.2)) hZ (hw _ (List.mem_of_getElem? (i := 27) rfl)) (hw _ (List.mem_of_getElem? (i := 3) rfl)) (by decide) (by decide)) q32_a q32_c (g := (mkF m 61 #[.val (.int i0), .val (.ref b1), .val (.int (4 : Int32)), .val (.ref og), .val (.int (1 : Int32)), .unset, .unset, .unset, .unset] [(.ref og)])) rfl (by rw [hml]; rfl) (Steps.refl _) (argsL := []) (rest := []) (lenOf pd__28_29Ljava_2flang_2fString_3b rfl) rfl (by show 2 * 0 + _ ≤ _; exact Nat.le_of_eq rfl) (hb hby at_61) (fun _ _ => ⟨rfl, e31_, (by decide : 1 + 0 ≤ _), (by decide : 6 + 0 ≤ _)⟩)
    dsimp only [Pt.U, Pt.locs, Pt.cells, Pt.slots] at X32_ l32_ y32_ z32_ st32_ hQ32_
    subst l32_ y32_ z32_
    obtain ⟨rfl, N32_q, e32_⟩ := hQ32_
    have N32_ := Fr.app N31_ N32_q
    refine Runs.tr st32_ ?_
    replace X32_ := wider X32_ (c' := 1) (s' := 6) (by decide) (by decide)
    show Runs p.tables e below _ (T32_.setTop (mkF m 64 #[.val (.int i0), .val (.ref b1), .val (.int (4 : Int32)), .val (.ref og), .val (.int (1 : Int32)), .unset, .unset, .unset, .unset] [(.ref s4)]))
    refine Runs.st (fun t' k' => XS.astore X32_.here hx rfl (hb hby at_64) rfl rfl (l' := #[.val (.int i0), .val (.ref b1), .val (.int (4 : Int32)), .val (.ref og), .val (.int (1 : Int32)), .val (.ref s4), .unset, .unset, .unset]) rfl k') ?_
    show Runs p.tables e below _ (T32_.setTop (mkF m 66 #[.val (.int i0), .val (.ref b1), .val (.int (4 : Int32)), .val (.ref og), .val (.int (1 : Int32)), .val (.ref s4), .unset, .unset, .unset] []))
    refine Runs.st (fun t' k' => XS.aload X32_.here hx rfl (hb hby at_66) rfl rfl k') ?_
    show Runs p.tables e below _ (T32_.setTop (mkF m 68 #[.val (.int i0), .val (.ref b1), .val (.int (4 : Int32)), .val (.ref og), .val (.int (1 : Int32)), .val (.ref s4), .unset, .unset, .unset] [(.ref s4)]))
    refine Runs.st (fun t' k' => XS.iconst X32_.here hx rfl (hb hby at_68) k') ?_
    show Runs p.tables e below _ (T32_.setTop (mkF m 69 #[.val (.int i0), .val (.ref b1), .val (.int (4 : Int32)), .val (.ref og), .val (.int (1 : Int32)), .val (.ref s4), .unset, .unset, .unset] [(.int (0 : Int32)), (.ref s4)]))
    obtain ⟨cq33_, kq33_, q33_a, q33_b, q33_c⟩ := isOf hZ e32_ (Es4.ext old.2)
    obtain ⟨_, _, ⟨T33_, L33_, k33_, n33_⟩, -, X33_, ⟨Lc33_, hQ33_, l33_, y33_, z33_⟩, st33_⟩ := X32_.virtualBack hx (y := (⟨"java/lang/String", "charAt", "(I)C"⟩ : MethodName)) (z := (⟨"java/lang/String", "charAt", "(I)C"⟩ : MethodName)) hown (mvT hZ (hw _ (List.mem_of_getElem? (i := 30) rfl))) (mvT hZ (hw _ (List.mem_of_getElem? (i := 31) rfl))) (notFace_of_selects (args := #[]) (mvT hZ (hw _ (List.mem_of_getElem? (i := 33) rfl)))) (mvT hZ (hw _ (List.mem_of_getElem? (i := 33) rfl))) (mvT hZ (hw _ (List.mem_of_getElem? (i := 32) rfl))) (by decide) (backOf (W := 0) (rmCh l Z a0 hw [] s4 (0 : Int32) zc v4 (1 : Int32) kq4 _ (62 : Int32) fm (62 : Int32) h13_ n0 sz (Es4.ext old.2) (Sc.ext old.2) hzc (Fc4.ext old.2) (Fv4.ext old.2) (V4.ext old.2) (Sf.ext old.2) hfm (by decide) (by decide) rfl (by decide)) hZ (hw _ (List.mem_of_getElem? (i := 35) rfl)) (hw _ (List.mem_of_getElem? (i := 34) rfl)) (by decide) (by decide)) q33_a q33_c (g := (mkF m 69 #[.val (.int i0), .val (.ref b1), .val (.int (4 : Int32)), .val (.ref og), .val (.int (1 : Int32)), .val (.ref s4), .unset, .unset, .unset] [(.int (0 : Int32)), (.ref s4)])) rfl (by rw [hml]; rfl) (Steps.refl _) (argsL := [(.int (0 : Int32))]) (rest := []) (lenOf pd__28I_29C rfl) rfl (by show 2 * 0 + _ ≤ _; exact Nat.le_of_eq rfl) (hb hby at_69) (fun _ _ => ⟨rfl, e32_, (by decide : 1 + 0 ≤ _), (by decide : 6 + 0 ≤ _)⟩)
    dsimp only [Pt.U, Pt.locs, Pt.cells, Pt.slots] at X33_ l33_ y33_ z33_ st33_ hQ33_
    subst l33_ y33_ z33_
    obtain ⟨rfl, N33_q, e33_⟩ := hQ33_
    have N33_ := Fr.app N32_ N33_q
    refine Runs.tr st33_ ?_
    replace X33_ := wider X33_ (c' := 1) (s' := 6) (by decide) (by decide)
    show Runs p.tables e below _ (T33_.setTop (mkF m 72 #[.val (.int i0), .val (.ref b1), .val (.int (4 : Int32)), .val (.ref og), .val (.int (1 : Int32)), .val (.ref s4), .unset, .unset, .unset] [(.int (62 : Int32))]))
    refine Runs.st (fun t' k' => XS.istore X33_.here hx rfl (hb hby at_72) rfl (l' := #[.val (.int i0), .val (.ref b1), .val (.int (4 : Int32)), .val (.ref og), .val (.int (1 : Int32)), .val (.ref s4), .val (.int (62 : Int32)), .unset, .unset]) rfl k') ?_
    show Runs p.tables e below _ (T33_.setTop (mkF m 74 #[.val (.int i0), .val (.ref b1), .val (.int (4 : Int32)), .val (.ref og), .val (.int (1 : Int32)), .val (.ref s4), .val (.int (62 : Int32)), .unset, .unset] []))
    refine Runs.st (fun t' k' => XS.iload X33_.here hx rfl (hb hby at_74) rfl k') ?_
    show Runs p.tables e below _ (T33_.setTop (mkF m 76 #[.val (.int i0), .val (.ref b1), .val (.int (4 : Int32)), .val (.ref og), .val (.int (1 : Int32)), .val (.ref s4), .val (.int (62 : Int32)), .unset, .unset] [(.int (62 : Int32))]))
    refine Runs.st (fun t' k' => XS.bipush X33_.here hx rfl (hb hby at_76) k') ?_
    show Runs p.tables e below _ (T33_.setTop (mkF m 78 #[.val (.int i0), .val (.ref b1), .val (.int (4 : Int32)), .val (.ref og), .val (.int (1 : Int32)), .val (.ref s4), .val (.int (62 : Int32)), .unset, .unset] [(.int (60 : Int32)), (.int (62 : Int32))]))
    refine Runs.st (fun t' k' => XS.icmpNo X33_.here hx rfl (hb hby at_78) rfl (feq (by decide)).1 k') ?_
    show Runs p.tables e below _ (T33_.setTop (mkF m 81 #[.val (.int i0), .val (.ref b1), .val (.int (4 : Int32)), .val (.ref og), .val (.int (1 : Int32)), .val (.ref s4), .val (.int (62 : Int32)), .unset, .unset] []))
    refine Runs.st (fun t' k' => XS.iload X33_.here hx rfl (hb hby at_81) rfl k') ?_
    show Runs p.tables e below _ (T33_.setTop (mkF m 83 #[.val (.int i0), .val (.ref b1), .val (.int (4 : Int32)), .val (.ref og), .val (.int (1 : Int32)), .val (.ref s4), .val (.int (62 : Int32)), .unset, .unset] [(.int (62 : Int32))]))
    refine Runs.st (fun t' k' => XS.bipush X33_.here hx rfl (hb hby at_83) k') ?_
    show Runs p.tables e below _ (T33_.setTop (mkF m 85 #[.val (.int i0), .val (.ref b1), .val (.int (4 : Int32)), .val (.ref og), .val (.int (1 : Int32)), .val (.ref s4), .val (.int (62 : Int32)), .unset, .unset] [(.int (62 : Int32)), (.int (62 : Int32))]))
    refine Runs.st (fun t' k' => XS.icmpNo X33_.here hx rfl (hb hby at_85) rfl (teq rfl).2 k') ?_
    show Runs p.tables e below _ (T33_.setTop (mkF m 88 #[.val (.int i0), .val (.ref b1), .val (.int (4 : Int32)), .val (.ref og), .val (.int (1 : Int32)), .val (.ref s4), .val (.int (62 : Int32)), .unset, .unset] []))
    refine Runs.st (fun t' k' => XS.iconst X33_.here hx rfl (hb hby at_88) k') ?_
    show Runs p.tables e below _ (T33_.setTop (mkF m 89 #[.val (.int i0), .val (.ref b1), .val (.int (4 : Int32)), .val (.ref og), .val (.int (1 : Int32)), .val (.ref s4), .val (.int (62 : Int32)), .unset, .unset] [(.int (1 : Int32))]))
    refine Runs.st (fun t' k' => XS.goto X33_.here hx rfl (pc0 := 89) (pc' := 93) rfl (hb hby at_89) (by decide) (by decide) k') ?_
    show Runs p.tables e below _ (T33_.setTop (mkF m 93 #[.val (.int i0), .val (.ref b1), .val (.int (4 : Int32)), .val (.ref og), .val (.int (1 : Int32)), .val (.ref s4), .val (.int (62 : Int32)), .unset, .unset] [(.int (1 : Int32))]))
    refine Runs.st (fun t' k' => XS.istore X33_.here hx rfl (hb hby at_93) rfl (l' := #[.val (.int i0), .val (.ref b1), .val (.int (4 : Int32)), .val (.ref og), .val (.int (1 : Int32)), .val (.ref s4), .val (.int (62 : Int32)), .val (.int (1 : Int32)), .unset]) rfl k') ?_
    show Runs p.tables e below _ (T33_.setTop (mkF m 95 #[.val (.int i0), .val (.ref b1), .val (.int (4 : Int32)), .val (.ref og), .val (.int (1 : Int32)), .val (.ref s4), .val (.int (62 : Int32)), .val (.int (1 : Int32)), .unset] []))
    refine Runs.st (fun t' k' => XS.iloadN X33_.here hx rfl (hb hby at_95) rfl k') ?_
    show Runs p.tables e below _ (T33_.setTop (mkF m 96 #[.val (.int i0), .val (.ref b1), .val (.int (4 : Int32)), .val (.ref og), .val (.int (1 : Int32)), .val (.ref s4), .val (.int (62 : Int32)), .val (.int (1 : Int32)), .unset] [(.int (4 : Int32))]))
    refine Runs.st (fun t' k' => XS.iconst X33_.here hx rfl (hb hby at_96) k') ?_
    show Runs p.tables e below _ (T33_.setTop (mkF m 97 #[.val (.int i0), .val (.ref b1), .val (.int (4 : Int32)), .val (.ref og), .val (.int (1 : Int32)), .val (.ref s4), .val (.int (62 : Int32)), .val (.int (1 : Int32)), .unset] [(.int (2 : Int32)), (.int (4 : Int32))]))
    refine Runs.st (fun t' k' => XS.icmpNo X33_.here hx rfl (hb hby at_97) rfl (flt (by decide)).1 k') ?_
    show Runs p.tables e below _ (T33_.setTop (mkF m 100 #[.val (.int i0), .val (.ref b1), .val (.int (4 : Int32)), .val (.ref og), .val (.int (1 : Int32)), .val (.ref s4), .val (.int (62 : Int32)), .val (.int (1 : Int32)), .unset] []))
    refine Runs.st (fun t' k' => XS.iconst X33_.here hx rfl (hb hby at_100) k') ?_
    show Runs p.tables e below _ (T33_.setTop (mkF m 101 #[.val (.int i0), .val (.ref b1), .val (.int (4 : Int32)), .val (.ref og), .val (.int (1 : Int32)), .val (.ref s4), .val (.int (62 : Int32)), .val (.int (1 : Int32)), .unset] [(.int (1 : Int32))]))
    refine Runs.st (fun t' k' => XS.goto X33_.here hx rfl (pc0 := 101) (pc' := 105) rfl (hb hby at_101) (by decide) (by decide) k') ?_
    show Runs p.tables e below _ (T33_.setTop (mkF m 105 #[.val (.int i0), .val (.ref b1), .val (.int (4 : Int32)), .val (.ref og), .val (.int (1 : Int32)), .val (.ref s4), .val (.int (62 : Int32)), .val (.int (1 : Int32)), .unset] [(.int (1 : Int32))]))
    refine Runs.st (fun t' k' => XS.istore X33_.here hx rfl (hb hby at_105) rfl (l' := #[.val (.int i0), .val (.ref b1), .val (.int (4 : Int32)), .val (.ref og), .val (.int (1 : Int32)), .val (.ref s4), .val (.int (62 : Int32)), .val (.int (1 : Int32)), .val (.int (1 : Int32))]) rfl k') ?_
    show Runs p.tables e below _ (T33_.setTop (mkF m 107 #[.val (.int i0), .val (.ref b1), .val (.int (4 : Int32)), .val (.ref og), .val (.int (1 : Int32)), .val (.ref s4), .val (.int (62 : Int32)), .val (.int (1 : Int32)), .val (.int (1 : Int32))] []))
    refine Runs.st (fun t' k' => XS.iload X33_.here hx rfl (hb hby at_107) rfl k') ?_
    show Runs p.tables e below _ (T33_.setTop (mkF m 109 #[.val (.int i0), .val (.ref b1), .val (.int (4 : Int32)), .val (.ref og), .val (.int (1 : Int32)), .val (.ref s4), .val (.int (62 : Int32)), .val (.int (1 : Int32)), .val (.int (1 : Int32))] [(.int (1 : Int32))]))
    refine Runs.st (fun t' k' => XS.iload X33_.here hx rfl (hb hby at_109) rfl k') ?_
    show Runs p.tables e below _ (T33_.setTop (mkF m 111 #[.val (.int i0), .val (.ref b1), .val (.int (4 : Int32)), .val (.ref og), .val (.int (1 : Int32)), .val (.ref s4), .val (.int (62 : Int32)), .val (.int (1 : Int32)), .val (.int (1 : Int32))] [(.int (1 : Int32)), (.int (1 : Int32))]))
    refine Runs.st (fun t' k' => XS.icmpNo X33_.here hx rfl (hb hby at_111) rfl (teq rfl).2 k') ?_
    show Runs p.tables e below _ (T33_.setTop (mkF m 114 #[.val (.int i0), .val (.ref b1), .val (.int (4 : Int32)), .val (.ref og), .val (.int (1 : Int32)), .val (.ref s4), .val (.int (62 : Int32)), .val (.int (1 : Int32)), .val (.int (1 : Int32))] []))
    refine Runs.st (fun t' k' => XS.iload X33_.here hx rfl (hb hby at_114) rfl k') ?_
    show Runs p.tables e below _ (T33_.setTop (mkF m 116 #[.val (.int i0), .val (.ref b1), .val (.int (4 : Int32)), .val (.ref og), .val (.int (1 : Int32)), .val (.ref s4), .val (.int (62 : Int32)), .val (.int (1 : Int32)), .val (.int (1 : Int32))] [(.int (1 : Int32))]))
    refine Runs.st (fun t' k' => XS.iload X33_.here hx rfl (hb hby at_116) rfl k') ?_
    show Runs p.tables e below _ (T33_.setTop (mkF m 118 #[.val (.int i0), .val (.ref b1), .val (.int (4 : Int32)), .val (.ref og), .val (.int (1 : Int32)), .val (.ref s4), .val (.int (62 : Int32)), .val (.int (1 : Int32)), .val (.int (1 : Int32))] [(.int (1 : Int32)), (.int (1 : Int32))]))
    refine Runs.st (fun t' k' => XS.icmpNo X33_.here hx rfl (hb hby at_118) rfl (teq rfl).2 k') ?_
    show Runs p.tables e below _ (T33_.setTop (mkF m 121 #[.val (.int i0), .val (.ref b1), .val (.int (4 : Int32)), .val (.ref og), .val (.int (1 : Int32)), .val (.ref s4), .val (.int (62 : Int32)), .val (.int (1 : Int32)), .val (.int (1 : Int32))] []))
    refine Runs.st (fun t' k' => XS.iconst X33_.here hx rfl (hb hby at_121) k') ?_
    show Runs p.tables e below _ (T33_.setTop (mkF m 122 #[.val (.int i0), .val (.ref b1), .val (.int (4 : Int32)), .val (.ref og), .val (.int (1 : Int32)), .val (.ref s4), .val (.int (62 : Int32)), .val (.int (1 : Int32)), .val (.int (1 : Int32))] [(.int (1 : Int32))]))
    refine Runs.st (fun t' k' => XS.goto X33_.here hx rfl (pc0 := 122) (pc' := 126) rfl (hb hby at_122) (by decide) (by decide) k') ?_
    show Runs p.tables e below _ (T33_.setTop (mkF m 126 #[.val (.int i0), .val (.ref b1), .val (.int (4 : Int32)), .val (.ref og), .val (.int (1 : Int32)), .val (.ref s4), .val (.int (62 : Int32)), .val (.int (1 : Int32)), .val (.int (1 : Int32))] [(.int (1 : Int32))]))
    refine Runs.ret X33_ hlk (v := (some (.int (1 : Int32)))) (fun h => by rw [hret] at h; cases h) (by decide) (by decide) ?_ (fun fs hr => retN X33_ hx (t := .boolean) hret (by simp) (hb hby at_126) hr)
    try rw [e33_]
    exact ⟨rfl, N33_⟩
  · skip
    rw [hj]
    show Runs p.tables e below _ (T13_.setTop (mkF m 49 #[.val (.int i0), .val (.ref b1), .unset, .unset, .unset, .unset, .unset, .unset, .unset] [(.int (5 : Int32))]))
    refine Runs.st (fun t' k' => XS.istoreN X13_.here hx rfl (hb hby at_49) rfl (l' := #[.val (.int i0), .val (.ref b1), .val (.int (5 : Int32)), .unset, .unset, .unset, .unset, .unset, .unset]) rfl k') ?_
    show Runs p.tables e below _ (T13_.setTop (mkF m 50 #[.val (.int i0), .val (.ref b1), .val (.int (5 : Int32)), .unset, .unset, .unset, .unset, .unset, .unset] []))
    refine Runs.st (fun t' k' => XS.aloadN X13_.here hx rfl (hb hby at_50) rfl rfl k') ?_
    show Runs p.tables e below _ (T13_.setTop (mkF m 51 #[.val (.int i0), .val (.ref b1), .val (.int (5 : Int32)), .unset, .unset, .unset, .unset, .unset, .unset] [(.ref b1)]))
    refine Runs.st (fun t' k' => XS.iloadN X13_.here hx rfl (hb hby at_51) rfl k') ?_
    show Runs p.tables e below _ (T13_.setTop (mkF m 52 #[.val (.int i0), .val (.ref b1), .val (.int (5 : Int32)), .unset, .unset, .unset, .unset, .unset, .unset] [(.int (5 : Int32)), (.ref b1)]))
    obtain ⟨cl34_, Ar34_, -, S34_, M34_, Ha34_, -⟩ := id V_b1
    have hin34_ : ¬ ((5 : Int32) < 0 ∨ cl34_.slots.size ≤ ((5 : Int32)).toNatClampNeg) := inb_of S34_ ⟨by decide, by decide⟩
    refine Runs.st (X13_.aaload hx (j := (5 : Int32)) (v := (.ref oge)) (by rw [e13_]; exact Ar34_.1) (State.isArrayOf_alike hZ.alike Ar34_.2.1) rfl Ar34_.2.2 hin34_ (Ha34_.at hin34_ rfl) (g := (mkF m 52 #[.val (.int i0), .val (.ref b1), .val (.int (5 : Int32)), .unset, .unset, .unset, .unset, .unset, .unset] [(.int (5 : Int32)), (.ref b1)])) rfl rfl (hb hby at_52)) ?_
    show Runs p.tables e below _ (T13_.setTop (mkF m 53 #[.val (.int i0), .val (.ref b1), .val (.int (5 : Int32)), .unset, .unset, .unset, .unset, .unset, .unset] [(.ref oge)]))
    refine Runs.st (fun t' k' => XS.astoreN X13_.here hx rfl (hb hby at_53) rfl rfl (l' := #[.val (.int i0), .val (.ref b1), .val (.int (5 : Int32)), .val (.ref oge), .unset, .unset, .unset, .unset, .unset]) rfl k') ?_
    show Runs p.tables e below _ (T13_.setTop (mkF m 54 #[.val (.int i0), .val (.ref b1), .val (.int (5 : Int32)), .val (.ref oge), .unset, .unset, .unset, .unset, .unset] []))
    refine Runs.st (fun t' k' => XS.aloadN X13_.here hx rfl (hb hby at_54) rfl rfl k') ?_
    show Runs p.tables e below _ (T13_.setTop (mkF m 55 #[.val (.int i0), .val (.ref b1), .val (.int (5 : Int32)), .val (.ref oge), .unset, .unset, .unset, .unset, .unset] [(.ref oge)]))
    obtain ⟨cq35_, kq35_, q35_a, q35_b, q35_c⟩ := isOf hZ e13_ (E5.ext old.2)
    obtain ⟨_, _, ⟨T35_, L35_, k35_, n35_⟩, -, X35_, ⟨Lc35_, hQ35_, l35_, y35_, z35_⟩, st35_⟩ := X13_.virtualBack hx (y := (⟨"com/example/final_marking/finalmarking/net/Guard$Operator", "orders", "()Z"⟩ : MethodName)) (z := (⟨"com/example/final_marking/finalmarking/net/Guard$Operator", "orders", "()Z"⟩ : MethodName)) hown (mvT hZ (hw _ (List.mem_of_getElem? (i := 17) rfl))) (mvT hZ (hw _ (List.mem_of_getElem? (i := 18) rfl))) (notFace_of_selects (args := #[]) (mvT hZ (hw _ (List.mem_of_getElem? (i := 20) rfl)))) (mvT hZ (hw _ (List.mem_of_getElem? (i := 20) rfl))) (mvT hZ (hw _ (List.mem_of_getElem? (i := 19) rfl))) (by decide) (backOf (W := 0) (rmOrd l Z a0 hw [] oge oe one (1 : Int32) h13_ n0 sz (S0.ext old.2) (S1.ext old.2) (Or.inr ⟨⟨neq O5 O0 (by decide), neq O5 O1 (by decide)⟩, rfl⟩)) hZ (hw _ (List.mem_of_getElem? (i := 21) rfl)) (hw _ (List.mem_of_getElem? (i := 3) rfl)) (by decide) (by decide)) q35_a q35_c (g := (mkF m 55 #[.val (.int i0), .val (.ref b1), .val (.int (5 : Int32)), .val (.ref oge), .unset, .unset, .unset, .unset, .unset] [(.ref oge)])) rfl (by rw [hml]; rfl) (Steps.refl _) (argsL := []) (rest := []) (lenOf pd__28_29Z rfl) rfl (by show 2 * 0 + _ ≤ _; exact Nat.le_of_eq rfl) (hb hby at_55) (fun _ _ => ⟨rfl, e13_, (by decide : 1 + 0 ≤ _), (by decide : 6 + 0 ≤ _)⟩)
    dsimp only [Pt.U, Pt.locs, Pt.cells, Pt.slots] at X35_ l35_ y35_ z35_ st35_ hQ35_
    subst l35_ y35_ z35_
    obtain ⟨rfl, N35_q, e35_⟩ := hQ35_
    have N35_ := Fr.app N13_ N35_q
    refine Runs.tr st35_ ?_
    replace X35_ := wider X35_ (c' := 1) (s' := 6) (by decide) (by decide)
    show Runs p.tables e below _ (T35_.setTop (mkF m 58 #[.val (.int i0), .val (.ref b1), .val (.int (5 : Int32)), .val (.ref oge), .unset, .unset, .unset, .unset, .unset] [(.int (1 : Int32))]))
    refine Runs.st (fun t' k' => XS.istore X35_.here hx rfl (hb hby at_58) rfl (l' := #[.val (.int i0), .val (.ref b1), .val (.int (5 : Int32)), .val (.ref oge), .val (.int (1 : Int32)), .unset, .unset, .unset, .unset]) rfl k') ?_
    show Runs p.tables e below _ (T35_.setTop (mkF m 60 #[.val (.int i0), .val (.ref b1), .val (.int (5 : Int32)), .val (.ref oge), .val (.int (1 : Int32)), .unset, .unset, .unset, .unset] []))
    refine Runs.st (fun t' k' => XS.aloadN X35_.here hx rfl (hb hby at_60) rfl rfl k') ?_
    show Runs p.tables e below _ (T35_.setTop (mkF m 61 #[.val (.int i0), .val (.ref b1), .val (.int (5 : Int32)), .val (.ref oge), .val (.int (1 : Int32)), .unset, .unset, .unset, .unset] [(.ref oge)]))
    obtain ⟨cq36_, kq36_, q36_a, q36_b, q36_c⟩ := isOf hZ e35_ (E5.ext old.2)
    obtain ⟨_, _, ⟨T36_, L36_, k36_, n36_⟩, -, X36_, ⟨Lc36_, hQ36_, l36_, y36_, z36_⟩, st36_⟩ := X35_.virtualBack hx (y := (⟨"com/example/final_marking/finalmarking/net/Guard$Operator", "symbol", "()Ljava/lang/String;"⟩ : MethodName)) (z := (⟨"com/example/final_marking/finalmarking/net/Guard$Operator", "symbol", "()Ljava/lang/String;"⟩ : MethodName)) hown (mvT hZ (hw _ (List.mem_of_getElem? (i := 23) rfl))) (mvT hZ (hw _ (List.mem_of_getElem? (i := 24) rfl))) (notFace_of_selects (args := #[]) (mvT hZ (hw _ (List.mem_of_getElem? (i := 26) rfl)))) (mvT hZ (hw _ (List.mem_of_getElem? (i := 26) rfl))) (mvT hZ (hw _ (List.mem_of_getElem? (i := 25) rfl))) (by decide) (backOf (W := 0) (rmSym l Z a0 hw [] oge s5 h13_ n0 sz (Fs5.ext old.2)) hZ (hw _ (List.mem_of_getElem? (i := 27) rfl)) (hw _ (List.mem_of_getElem? (i := 3) rfl)) (by decide) (by decide)) q36_a q36_c (g := (mkF m 61 #[.val (.int i0), .val (.ref b1), .val (.int (5 : Int32)), .val (.ref oge), .val (.int (1 : Int32)), .unset, .unset, .unset, .unset] [(.ref oge)])) rfl (by rw [hml]; rfl) (Steps.refl _) (argsL := []) (rest := []) (lenOf pd__28_29Ljava_2flang_2fString_3b rfl) rfl (by show 2 * 0 + _ ≤ _; exact Nat.le_of_eq rfl) (hb hby at_61) (fun _ _ => ⟨rfl, e35_, (by decide : 1 + 0 ≤ _), (by decide : 6 + 0 ≤ _)⟩)
    dsimp only [Pt.U, Pt.locs, Pt.cells, Pt.slots] at X36_ l36_ y36_ z36_ st36_ hQ36_
    subst l36_ y36_ z36_
    obtain ⟨rfl, N36_q, e36_⟩ := hQ36_
    have N36_ := Fr.app N35_ N36_q
    refine Runs.tr st36_ ?_
    replace X36_ := wider X36_ (c' := 1) (s' := 6) (by decide) (by decide)
    show Runs p.tables e below _ (T36_.setTop (mkF m 64 #[.val (.int i0), .val (.ref b1), .val (.int (5 : Int32)), .val (.ref oge), .val (.int (1 : Int32)), .unset, .unset, .unset, .unset] [(.ref s5)]))
    refine Runs.st (fun t' k' => XS.astore X36_.here hx rfl (hb hby at_64) rfl rfl (l' := #[.val (.int i0), .val (.ref b1), .val (.int (5 : Int32)), .val (.ref oge), .val (.int (1 : Int32)), .val (.ref s5), .unset, .unset, .unset]) rfl k') ?_
    show Runs p.tables e below _ (T36_.setTop (mkF m 66 #[.val (.int i0), .val (.ref b1), .val (.int (5 : Int32)), .val (.ref oge), .val (.int (1 : Int32)), .val (.ref s5), .unset, .unset, .unset] []))
    refine Runs.st (fun t' k' => XS.aload X36_.here hx rfl (hb hby at_66) rfl rfl k') ?_
    show Runs p.tables e below _ (T36_.setTop (mkF m 68 #[.val (.int i0), .val (.ref b1), .val (.int (5 : Int32)), .val (.ref oge), .val (.int (1 : Int32)), .val (.ref s5), .unset, .unset, .unset] [(.ref s5)]))
    refine Runs.st (fun t' k' => XS.iconst X36_.here hx rfl (hb hby at_68) k') ?_
    show Runs p.tables e below _ (T36_.setTop (mkF m 69 #[.val (.int i0), .val (.ref b1), .val (.int (5 : Int32)), .val (.ref oge), .val (.int (1 : Int32)), .val (.ref s5), .unset, .unset, .unset] [(.int (0 : Int32)), (.ref s5)]))
    obtain ⟨cq37_, kq37_, q37_a, q37_b, q37_c⟩ := isOf hZ e36_ (Es5.ext old.2)
    obtain ⟨_, _, ⟨T37_, L37_, k37_, n37_⟩, -, X37_, ⟨Lc37_, hQ37_, l37_, y37_, z37_⟩, st37_⟩ := X36_.virtualBack hx (y := (⟨"java/lang/String", "charAt", "(I)C"⟩ : MethodName)) (z := (⟨"java/lang/String", "charAt", "(I)C"⟩ : MethodName)) hown (mvT hZ (hw _ (List.mem_of_getElem? (i := 30) rfl))) (mvT hZ (hw _ (List.mem_of_getElem? (i := 31) rfl))) (notFace_of_selects (args := #[]) (mvT hZ (hw _ (List.mem_of_getElem? (i := 33) rfl)))) (mvT hZ (hw _ (List.mem_of_getElem? (i := 33) rfl))) (mvT hZ (hw _ (List.mem_of_getElem? (i := 32) rfl))) (by decide) (backOf (W := 0) (rmCh l Z a0 hw [] s5 (0 : Int32) zc v5 (2 : Int32) kq5 _ (62 : Int32) fm (62 : Int32) h13_ n0 sz (Es5.ext old.2) (Sc.ext old.2) hzc (Fc5.ext old.2) (Fv5.ext old.2) (V5.ext old.2) (Sf.ext old.2) hfm (by decide) (by decide) rfl (by decide)) hZ (hw _ (List.mem_of_getElem? (i := 35) rfl)) (hw _ (List.mem_of_getElem? (i := 34) rfl)) (by decide) (by decide)) q37_a q37_c (g := (mkF m 69 #[.val (.int i0), .val (.ref b1), .val (.int (5 : Int32)), .val (.ref oge), .val (.int (1 : Int32)), .val (.ref s5), .unset, .unset, .unset] [(.int (0 : Int32)), (.ref s5)])) rfl (by rw [hml]; rfl) (Steps.refl _) (argsL := [(.int (0 : Int32))]) (rest := []) (lenOf pd__28I_29C rfl) rfl (by show 2 * 0 + _ ≤ _; exact Nat.le_of_eq rfl) (hb hby at_69) (fun _ _ => ⟨rfl, e36_, (by decide : 1 + 0 ≤ _), (by decide : 6 + 0 ≤ _)⟩)
    dsimp only [Pt.U, Pt.locs, Pt.cells, Pt.slots] at X37_ l37_ y37_ z37_ st37_ hQ37_
    subst l37_ y37_ z37_
    obtain ⟨rfl, N37_q, e37_⟩ := hQ37_
    have N37_ := Fr.app N36_ N37_q
    refine Runs.tr st37_ ?_
    replace X37_ := wider X37_ (c' := 1) (s' := 6) (by decide) (by decide)
    show Runs p.tables e below _ (T37_.setTop (mkF m 72 #[.val (.int i0), .val (.ref b1), .val (.int (5 : Int32)), .val (.ref oge), .val (.int (1 : Int32)), .val (.ref s5), .unset, .unset, .unset] [(.int (62 : Int32))]))
    refine Runs.st (fun t' k' => XS.istore X37_.here hx rfl (hb hby at_72) rfl (l' := #[.val (.int i0), .val (.ref b1), .val (.int (5 : Int32)), .val (.ref oge), .val (.int (1 : Int32)), .val (.ref s5), .val (.int (62 : Int32)), .unset, .unset]) rfl k') ?_
    show Runs p.tables e below _ (T37_.setTop (mkF m 74 #[.val (.int i0), .val (.ref b1), .val (.int (5 : Int32)), .val (.ref oge), .val (.int (1 : Int32)), .val (.ref s5), .val (.int (62 : Int32)), .unset, .unset] []))
    refine Runs.st (fun t' k' => XS.iload X37_.here hx rfl (hb hby at_74) rfl k') ?_
    show Runs p.tables e below _ (T37_.setTop (mkF m 76 #[.val (.int i0), .val (.ref b1), .val (.int (5 : Int32)), .val (.ref oge), .val (.int (1 : Int32)), .val (.ref s5), .val (.int (62 : Int32)), .unset, .unset] [(.int (62 : Int32))]))
    refine Runs.st (fun t' k' => XS.bipush X37_.here hx rfl (hb hby at_76) k') ?_
    show Runs p.tables e below _ (T37_.setTop (mkF m 78 #[.val (.int i0), .val (.ref b1), .val (.int (5 : Int32)), .val (.ref oge), .val (.int (1 : Int32)), .val (.ref s5), .val (.int (62 : Int32)), .unset, .unset] [(.int (60 : Int32)), (.int (62 : Int32))]))
    refine Runs.st (fun t' k' => XS.icmpNo X37_.here hx rfl (hb hby at_78) rfl (feq (by decide)).1 k') ?_
    show Runs p.tables e below _ (T37_.setTop (mkF m 81 #[.val (.int i0), .val (.ref b1), .val (.int (5 : Int32)), .val (.ref oge), .val (.int (1 : Int32)), .val (.ref s5), .val (.int (62 : Int32)), .unset, .unset] []))
    refine Runs.st (fun t' k' => XS.iload X37_.here hx rfl (hb hby at_81) rfl k') ?_
    show Runs p.tables e below _ (T37_.setTop (mkF m 83 #[.val (.int i0), .val (.ref b1), .val (.int (5 : Int32)), .val (.ref oge), .val (.int (1 : Int32)), .val (.ref s5), .val (.int (62 : Int32)), .unset, .unset] [(.int (62 : Int32))]))
    refine Runs.st (fun t' k' => XS.bipush X37_.here hx rfl (hb hby at_83) k') ?_
    show Runs p.tables e below _ (T37_.setTop (mkF m 85 #[.val (.int i0), .val (.ref b1), .val (.int (5 : Int32)), .val (.ref oge), .val (.int (1 : Int32)), .val (.ref s5), .val (.int (62 : Int32)), .unset, .unset] [(.int (62 : Int32)), (.int (62 : Int32))]))
    refine Runs.st (fun t' k' => XS.icmpNo X37_.here hx rfl (hb hby at_85) rfl (teq rfl).2 k') ?_
    show Runs p.tables e below _ (T37_.setTop (mkF m 88 #[.val (.int i0), .val (.ref b1), .val (.int (5 : Int32)), .val (.ref oge), .val (.int (1 : Int32)), .val (.ref s5), .val (.int (62 : Int32)), .unset, .unset] []))
    refine Runs.st (fun t' k' => XS.iconst X37_.here hx rfl (hb hby at_88) k') ?_
    show Runs p.tables e below _ (T37_.setTop (mkF m 89 #[.val (.int i0), .val (.ref b1), .val (.int (5 : Int32)), .val (.ref oge), .val (.int (1 : Int32)), .val (.ref s5), .val (.int (62 : Int32)), .unset, .unset] [(.int (1 : Int32))]))
    refine Runs.st (fun t' k' => XS.goto X37_.here hx rfl (pc0 := 89) (pc' := 93) rfl (hb hby at_89) (by decide) (by decide) k') ?_
    show Runs p.tables e below _ (T37_.setTop (mkF m 93 #[.val (.int i0), .val (.ref b1), .val (.int (5 : Int32)), .val (.ref oge), .val (.int (1 : Int32)), .val (.ref s5), .val (.int (62 : Int32)), .unset, .unset] [(.int (1 : Int32))]))
    refine Runs.st (fun t' k' => XS.istore X37_.here hx rfl (hb hby at_93) rfl (l' := #[.val (.int i0), .val (.ref b1), .val (.int (5 : Int32)), .val (.ref oge), .val (.int (1 : Int32)), .val (.ref s5), .val (.int (62 : Int32)), .val (.int (1 : Int32)), .unset]) rfl k') ?_
    show Runs p.tables e below _ (T37_.setTop (mkF m 95 #[.val (.int i0), .val (.ref b1), .val (.int (5 : Int32)), .val (.ref oge), .val (.int (1 : Int32)), .val (.ref s5), .val (.int (62 : Int32)), .val (.int (1 : Int32)), .unset] []))
    refine Runs.st (fun t' k' => XS.iloadN X37_.here hx rfl (hb hby at_95) rfl k') ?_
    show Runs p.tables e below _ (T37_.setTop (mkF m 96 #[.val (.int i0), .val (.ref b1), .val (.int (5 : Int32)), .val (.ref oge), .val (.int (1 : Int32)), .val (.ref s5), .val (.int (62 : Int32)), .val (.int (1 : Int32)), .unset] [(.int (5 : Int32))]))
    refine Runs.st (fun t' k' => XS.iconst X37_.here hx rfl (hb hby at_96) k') ?_
    show Runs p.tables e below _ (T37_.setTop (mkF m 97 #[.val (.int i0), .val (.ref b1), .val (.int (5 : Int32)), .val (.ref oge), .val (.int (1 : Int32)), .val (.ref s5), .val (.int (62 : Int32)), .val (.int (1 : Int32)), .unset] [(.int (2 : Int32)), (.int (5 : Int32))]))
    refine Runs.st (fun t' k' => XS.icmpNo X37_.here hx rfl (hb hby at_97) rfl (flt (by decide)).1 k') ?_
    show Runs p.tables e below _ (T37_.setTop (mkF m 100 #[.val (.int i0), .val (.ref b1), .val (.int (5 : Int32)), .val (.ref oge), .val (.int (1 : Int32)), .val (.ref s5), .val (.int (62 : Int32)), .val (.int (1 : Int32)), .unset] []))
    refine Runs.st (fun t' k' => XS.iconst X37_.here hx rfl (hb hby at_100) k') ?_
    show Runs p.tables e below _ (T37_.setTop (mkF m 101 #[.val (.int i0), .val (.ref b1), .val (.int (5 : Int32)), .val (.ref oge), .val (.int (1 : Int32)), .val (.ref s5), .val (.int (62 : Int32)), .val (.int (1 : Int32)), .unset] [(.int (1 : Int32))]))
    refine Runs.st (fun t' k' => XS.goto X37_.here hx rfl (pc0 := 101) (pc' := 105) rfl (hb hby at_101) (by decide) (by decide) k') ?_
    show Runs p.tables e below _ (T37_.setTop (mkF m 105 #[.val (.int i0), .val (.ref b1), .val (.int (5 : Int32)), .val (.ref oge), .val (.int (1 : Int32)), .val (.ref s5), .val (.int (62 : Int32)), .val (.int (1 : Int32)), .unset] [(.int (1 : Int32))]))
    refine Runs.st (fun t' k' => XS.istore X37_.here hx rfl (hb hby at_105) rfl (l' := #[.val (.int i0), .val (.ref b1), .val (.int (5 : Int32)), .val (.ref oge), .val (.int (1 : Int32)), .val (.ref s5), .val (.int (62 : Int32)), .val (.int (1 : Int32)), .val (.int (1 : Int32))]) rfl k') ?_
    show Runs p.tables e below _ (T37_.setTop (mkF m 107 #[.val (.int i0), .val (.ref b1), .val (.int (5 : Int32)), .val (.ref oge), .val (.int (1 : Int32)), .val (.ref s5), .val (.int (62 : Int32)), .val (.int (1 : Int32)), .val (.int (1 : Int32))] []))
    refine Runs.st (fun t' k' => XS.iload X37_.here hx rfl (hb hby at_107) rfl k') ?_
    show Runs p.tables e below _ (T37_.setTop (mkF m 109 #[.val (.int i0), .val (.ref b1), .val (.int (5 : Int32)), .val (.ref oge), .val (.int (1 : Int32)), .val (.ref s5), .val (.int (62 : Int32)), .val (.int (1 : Int32)), .val (.int (1 : Int32))] [(.int (1 : Int32))]))
    refine Runs.st (fun t' k' => XS.iload X37_.here hx rfl (hb hby at_109) rfl k') ?_
    show Runs p.tables e below _ (T37_.setTop (mkF m 111 #[.val (.int i0), .val (.ref b1), .val (.int (5 : Int32)), .val (.ref oge), .val (.int (1 : Int32)), .val (.ref s5), .val (.int (62 : Int32)), .val (.int (1 : Int32)), .val (.int (1 : Int32))] [(.int (1 : Int32)), (.int (1 : Int32))]))
    refine Runs.st (fun t' k' => XS.icmpNo X37_.here hx rfl (hb hby at_111) rfl (teq rfl).2 k') ?_
    show Runs p.tables e below _ (T37_.setTop (mkF m 114 #[.val (.int i0), .val (.ref b1), .val (.int (5 : Int32)), .val (.ref oge), .val (.int (1 : Int32)), .val (.ref s5), .val (.int (62 : Int32)), .val (.int (1 : Int32)), .val (.int (1 : Int32))] []))
    refine Runs.st (fun t' k' => XS.iload X37_.here hx rfl (hb hby at_114) rfl k') ?_
    show Runs p.tables e below _ (T37_.setTop (mkF m 116 #[.val (.int i0), .val (.ref b1), .val (.int (5 : Int32)), .val (.ref oge), .val (.int (1 : Int32)), .val (.ref s5), .val (.int (62 : Int32)), .val (.int (1 : Int32)), .val (.int (1 : Int32))] [(.int (1 : Int32))]))
    refine Runs.st (fun t' k' => XS.iload X37_.here hx rfl (hb hby at_116) rfl k') ?_
    show Runs p.tables e below _ (T37_.setTop (mkF m 118 #[.val (.int i0), .val (.ref b1), .val (.int (5 : Int32)), .val (.ref oge), .val (.int (1 : Int32)), .val (.ref s5), .val (.int (62 : Int32)), .val (.int (1 : Int32)), .val (.int (1 : Int32))] [(.int (1 : Int32)), (.int (1 : Int32))]))
    refine Runs.st (fun t' k' => XS.icmpNo X37_.here hx rfl (hb hby at_118) rfl (teq rfl).2 k') ?_
    show Runs p.tables e below _ (T37_.setTop (mkF m 121 #[.val (.int i0), .val (.ref b1), .val (.int (5 : Int32)), .val (.ref oge), .val (.int (1 : Int32)), .val (.ref s5), .val (.int (62 : Int32)), .val (.int (1 : Int32)), .val (.int (1 : Int32))] []))
    refine Runs.st (fun t' k' => XS.iconst X37_.here hx rfl (hb hby at_121) k') ?_
    show Runs p.tables e below _ (T37_.setTop (mkF m 122 #[.val (.int i0), .val (.ref b1), .val (.int (5 : Int32)), .val (.ref oge), .val (.int (1 : Int32)), .val (.ref s5), .val (.int (62 : Int32)), .val (.int (1 : Int32)), .val (.int (1 : Int32))] [(.int (1 : Int32))]))
    refine Runs.st (fun t' k' => XS.goto X37_.here hx rfl (pc0 := 122) (pc' := 126) rfl (hb hby at_122) (by decide) (by decide) k') ?_
    show Runs p.tables e below _ (T37_.setTop (mkF m 126 #[.val (.int i0), .val (.ref b1), .val (.int (5 : Int32)), .val (.ref oge), .val (.int (1 : Int32)), .val (.ref s5), .val (.int (62 : Int32)), .val (.int (1 : Int32)), .val (.int (1 : Int32))] [(.int (1 : Int32))]))
    refine Runs.ret X37_ hlk (v := (some (.int (1 : Int32)))) (fun h => by rw [hret] at h; cases h) (by decide) (by decide) ?_ (fun fs hr => retN X37_ hx (t := .boolean) hret (by simp) (hb hby at_126) hr)
    try rw [e37_]
    exact ⟨rfl, N37_⟩
set_option maxRecDepth 65536 in
set_option maxHeartbeats 40000000 in
theorem comes_1 {Post : Tables → Env → Array Value → State → Outcome → State → Prop} (hpost : ∀ tb e args s v u, (limb_1_1.after args s (.returned v) u = true ∧ limb_1_2.after args s (.returned v) u = true ∧ True) → FrameEnd s (.returned v) u (Jvm.fieldLocs frame_1_writes args s ++ Jvm.arrayLocs frame_1_arrays args s ++ Jvm.staticLocs frame_1_statics s) 16 128 → Post tb e args s (.returned v) u) :
    ArmFor flags0 classFile x code maxLocals ret World_1 tables_1 room_1 Calls_1 rest_1 Pre_1 Post := by
  intro l hfl _ _ p e ha hc hk s m args below hf hA hF happ hP
  obtain ⟨hcalls, hrest, hpre⟩ := hP
  obtain ⟨-, -, -, hnamed, -, -, -, hat⟩ := (Spec.applies_iff hf).mp happ
  obtain ⟨hg, hn⟩ := and_e (Cond.before_iff.mp (show (Jvm.Cond.and given_1 narrow_1).before args s = true from hpre))
  obtain ⟨gc, gr⟩ := and_e hg
  have gi0 := gr
  obtain ⟨w0, rfl⟩ : ∃ w0 : Value, args = #[w0] := by
    have hs : args.size = 1 := by simpa [Cond.value, given_1] using gc
    obtain ⟨L⟩ := args
    match L, hs with
    | [w0], _ => exact ⟨w0, rfl⟩
  have hw := fun d (hd : d ∈ tables_1) => atoms_spec (ws := Jvm.Cond.code x code maxLocals ret :: tables_1) hat d (List.mem_cons_of_mem _ hd)
  have hfit : Fit s := fun {y c} hc i hi => by
    obtain ⟨ha, rfl⟩ := Array.getElem?_eq_some_iff.mp hc
    have q := List.all_eq_true.mp ((Array.all_eq_true_iff_forall_mem.mp hF) _ (Array.getElem_mem ha)) i (List.mem_range.mpr hi)
    simpa [Array.getElem?_eq_getElem hi] using q
  obtain ⟨hsets, hown0⟩ := atoms_of _ (rest_1_c_eq ▸ (show rest_1_c.before _ s = true from hrest))
  have hr0 := Cond.before_iff.mp hown0
  obtain ⟨i0, ei0⟩ := is_v gi0
  obtain rfl : w0 = (.int i0) := Option.some.inj ei0
  obtain ⟨c0, hn⟩ := and_e hn
  obtain ⟨c1, hn⟩ := and_e hn
  obtain ⟨c2, hn⟩ := and_e hn
  obtain ⟨c3, hn⟩ := and_e hn
  obtain ⟨c4, hn⟩ := and_e hn
  obtain ⟨c5, hn⟩ := and_e hn
  obtain ⟨c6, hn⟩ := and_e hn
  obtain ⟨c7, hn⟩ := and_e hn
  obtain ⟨c8, hn⟩ := and_e hn
  obtain ⟨c9, hn⟩ := and_e hn
  obtain ⟨c10, hn⟩ := and_e hn
  obtain ⟨c11, hn⟩ := and_e hn
  obtain ⟨c12, hn⟩ := and_e hn
  obtain ⟨c13, hn⟩ := and_e hn
  obtain ⟨c14, hn⟩ := and_e hn
  obtain ⟨c15, hn⟩ := and_e hn
  obtain ⟨c16, hn⟩ := and_e hn
  obtain ⟨c17, hn⟩ := and_e hn
  obtain ⟨c18, hn⟩ := and_e hn
  obtain ⟨c19, hn⟩ := and_e hn
  obtain ⟨c20, hn⟩ := and_e hn
  obtain ⟨c21, hn⟩ := and_e hn
  obtain ⟨c22, hn⟩ := and_e hn
  obtain ⟨c23, hn⟩ := and_e hn
  obtain ⟨c24, hn⟩ := and_e hn
  obtain ⟨c25, hn⟩ := and_e hn
  obtain ⟨c26, hn⟩ := and_e hn
  obtain ⟨c27, hn⟩ := and_e hn
  obtain ⟨c28, hn⟩ := and_e hn
  obtain ⟨c29, hn⟩ := and_e hn
  obtain ⟨c30, hn⟩ := and_e hn
  obtain ⟨c31, hn⟩ := and_e hn
  obtain ⟨c32, hn⟩ := and_e hn
  obtain ⟨c33, hn⟩ := and_e hn
  obtain ⟨c34, hn⟩ := and_e hn
  obtain ⟨c35, hn⟩ := and_e hn
  obtain ⟨c36, hn⟩ := and_e hn
  obtain ⟨c37, hn⟩ := and_e hn
  obtain ⟨c38, hn⟩ := and_e hn
  obtain ⟨c39, hn⟩ := and_e hn
  obtain ⟨c40, hn⟩ := and_e hn
  obtain ⟨c41, hn⟩ := and_e hn
  obtain ⟨c42, hn⟩ := and_e hn
  obtain ⟨c43, hn⟩ := and_e hn
  obtain ⟨c44, hn⟩ := and_e hn
  have c45 := hn
  obtain ⟨oe, ev0, S0, E0⟩ := the_static c0 (hw _ (List.mem_of_getElem? (i := 3) rfl)) (hw _ (List.mem_of_getElem? (i := 4) rfl))
  have O0 := the_int ev0 c12
  obtain ⟨s0, es0, Fs0, Es0⟩ := the_ref ev0 c6
  have Fc0 := the_int es0 c7
  obtain ⟨v0, cl0, ea0, Fv0, Ar0⟩ := the_arr es0 c8
  obtain ⟨ln0, lz0⟩ := the_len ea0 Ar0 c9
  have V0 : Arv s s.heap v0 cl0.cls .byte (2 : Int32) [(.int (61 : Int32)), (.int (61 : Int32))] (.int (0 : Int32)) := Arv.start hfit Ar0 ln0 lz0 (by decide) (by decide) ⟨the_elem ea0 Ar0 c10, the_elem ea0 Ar0 c42, trivial⟩
  obtain ⟨one, ev1, S1, E1⟩ := the_static c1 (hw _ (List.mem_of_getElem? (i := 3) rfl)) (hw _ (List.mem_of_getElem? (i := 7) rfl))
  have O1 := the_int ev1 c13
  obtain ⟨s1, es1, Fs1, Es1⟩ := the_ref ev1 c25
  have Fc1 := the_int es1 c26
  obtain ⟨v1, cl1, ea1, Fv1, Ar1⟩ := the_arr es1 c27
  obtain ⟨ln1, lz1⟩ := the_len ea1 Ar1 c28
  have V1 : Arv s s.heap v1 cl1.cls .byte (2 : Int32) [(.int (33 : Int32)), (.int (61 : Int32))] (.int (0 : Int32)) := Arv.start hfit Ar1 ln1 lz1 (by decide) (by decide) ⟨the_elem ea1 Ar1 c29, the_elem ea1 Ar1 c44, trivial⟩
  obtain ⟨ol, ev2, S2, E2⟩ := the_static c2 (hw _ (List.mem_of_getElem? (i := 3) rfl)) (hw _ (List.mem_of_getElem? (i := 9) rfl))
  have O2 := the_int ev2 c19
  obtain ⟨s2, es2, Fs2, Es2⟩ := the_ref ev2 c20
  have Fc2 := the_int es2 c21
  obtain ⟨v2, cl2, ea2, Fv2, Ar2⟩ := the_arr es2 c22
  obtain ⟨ln2, lz2⟩ := the_len ea2 Ar2 c23
  have V2 : Arv s s.heap v2 cl2.cls .byte (1 : Int32) [(.int (60 : Int32))] (.int (0 : Int32)) := Arv.start hfit Ar2 ln2 lz2 (by decide) (by decide) ⟨the_elem ea2 Ar2 c24, trivial⟩
  obtain ⟨ole, ev3, S3, E3⟩ := the_static c3 (hw _ (List.mem_of_getElem? (i := 3) rfl)) (hw _ (List.mem_of_getElem? (i := 11) rfl))
  have O3 := the_int ev3 c11
  obtain ⟨s3, es3, Fs3, Es3⟩ := the_ref ev3 c14
  have Fc3 := the_int es3 c15
  obtain ⟨v3, cl3, ea3, Fv3, Ar3⟩ := the_arr es3 c16
  obtain ⟨ln3, lz3⟩ := the_len ea3 Ar3 c17
  have V3 : Arv s s.heap v3 cl3.cls .byte (2 : Int32) [(.int (60 : Int32)), (.int (61 : Int32))] (.int (0 : Int32)) := Arv.start hfit Ar3 ln3 lz3 (by decide) (by decide) ⟨the_elem ea3 Ar3 c18, the_elem ea3 Ar3 c43, trivial⟩
  obtain ⟨og, ev4, S4, E4⟩ := the_static c4 (hw _ (List.mem_of_getElem? (i := 3) rfl)) (hw _ (List.mem_of_getElem? (i := 13) rfl))
  have O4 := the_int ev4 c36
  obtain ⟨s4, es4, Fs4, Es4⟩ := the_ref ev4 c37
  have Fc4 := the_int es4 c38
  obtain ⟨v4, cl4, ea4, Fv4, Ar4⟩ := the_arr es4 c39
  obtain ⟨ln4, lz4⟩ := the_len ea4 Ar4 c40
  have V4 : Arv s s.heap v4 cl4.cls .byte (1 : Int32) [(.int (62 : Int32))] (.int (0 : Int32)) := Arv.start hfit Ar4 ln4 lz4 (by decide) (by decide) ⟨the_elem ea4 Ar4 c41, trivial⟩
  obtain ⟨oge, ev5, S5, E5⟩ := the_static c5 (hw _ (List.mem_of_getElem? (i := 3) rfl)) (hw _ (List.mem_of_getElem? (i := 15) rfl))
  have O5 := the_int ev5 c30
  obtain ⟨s5, es5, Fs5, Es5⟩ := the_ref ev5 c31
  have Fc5 := the_int es5 c32
  obtain ⟨v5, cl5, ea5, Fv5, Ar5⟩ := the_arr es5 c33
  obtain ⟨ln5, lz5⟩ := the_len ea5 Ar5 c34
  have V5 : Arv s s.heap v5 cl5.cls .byte (2 : Int32) [(.int (62 : Int32)), (.int (61 : Int32))] (.int (0 : Int32)) := Arv.start hfit Ar5 ln5 lz5 (by decide) (by decide) ⟨the_elem ea5 Ar5 c35, the_elem ea5 Ar5 c45, trivial⟩
  obtain ⟨zc, ezc⟩ := is_v (Cond.before_iff.mp (hsets _ (List.mem_of_getElem? (i := 1) rfl)))
  have Sc := Sta.start ezc (Or.inl (hsets _ (List.mem_of_getElem? (i := 0) rfl)))
  have hzc : ¬ zc = 0 := fun q => by
    have u := not_v (Cond.before_iff.mp (hsets _ (List.mem_of_getElem? (i := 2) rfl)))
    rw [q] at ezc
    have w := eq_i ezc (Term.int_eval (0 : Int32)) rfl
    rw [u] at w; cases w
  obtain ⟨fm, efm, hfm⟩ := isR_v (Cond.before_iff.mp (hsets _ (List.mem_of_getElem? (i := 8) rfl)))
  have Sf := Sta.start efm (Or.inl (hsets _ (List.mem_of_getElem? (i := 7) rfl)))
  obtain ⟨n, o, h1, h2, h3, _, L, rfl, ⟨rfl, N⟩, hq⟩ := rm0 l s _ hw tables_1 i0 oe one ol ole og oge s0 s1 s2 s3 s4 s5 v0 v1 v2 v3 v4 v5 _ _ _ _ _ _ zc fm s.heap s.heap.size (Nat.le_refl _) (Old.start s) Sc hzc Sf hfm S0 E0 O0 Fs0 Es0 Fc0 Fv0 V0 S1 E1 O1 Fs1 Es1 Fc1 Fv1 V1 S2 E2 O2 Fs2 Es2 Fc2 Fv2 V2 S3 E3 O3 Fs3 Es3 Fc3 Fv3 V3 S4 E4 O4 Fs4 Es4 Fc4 Fv4 V4 S5 E5 O5 Fs5 Es5 Fc5 Fv5 V5 p e ha hc hk s m _ below hf ((Spec.applies_iff_loose hf).mp happ).1 ⟨rfl, State.Warmed39.refl s, rfl⟩ trivial
  refine ⟨n, _, h1, h2, h3, hpost _ _ _ _ _ _ ⟨Cond.after_iff.mpr rfl, Cond.after_iff.mpr (eq_i res_at (Term.int_eval (1)) rfl), trivial⟩ ⟨hq.1, hq.2.1, (hq.2.2.sift fun y hy => Or.inr (N y hy)).mono (by decide) (by decide)⟩⟩
theorem main_1_1 : Claimed_1_1 := comes_1 fun _ _ _ _ _ _ h hF => ⟨h.1, hF⟩
theorem main_1_2 : Claimed_1_2 := comes_1 fun _ _ _ _ _ _ h hF => ⟨h.2.1, hF⟩
end Jvm.Pilot.@@N@@
namespace Jvm.Pilot.@@N@@
open Jvm Jvm.ClassFile Sem Op Lib Jvm.Free Jvm.Stand Jvm.Pilot.@@N@@.Jvm.D
/-! MADE BY PROGRAM (witnessworld.py) out of the Statement's table words and the real class files: 19 classes; the members and pool entries that the words name. The judged class is class 1, her method 1. -/
namespace start1
open Jvm.ClassFile
def u (s : String) : CpInfo := .utf8 (stringToUtf16 s)
/-- a pool by its gaps: so many unusable entries, then the entry; so many at the end -/
def gap : Nat → List CpInfo → List CpInfo
  | 0, r => r
  | n + 1, r => .unusable :: gap n r
def poolList (es : List (Nat × CpInfo)) (last : Nat) : List CpInfo := es.foldr (fun e r => gap e.1 (e.2 :: r)) (gap last [])
def pool (es : List (Nat × CpInfo)) (last : Nat) : Array CpInfo := ⟨poolList es last⟩
def fileOf (pool : Array CpInfo) (this : Nat) (attrs : Array Attribute := #[]) (ms : Array MethodInfo := #[]) (fl : Nat := 33) (sup : Nat := 0) (ifs : Array Nat := #[]) (fds : Array FieldInfo := #[]) : ClassFile where
  minorVersion := 0
  majorVersion := 65
  constantPool := pool
  accessFlags := fl
  thisClass := this
  superClass := sup
  interfaces := ifs
  fields := fds
  methods := ms
  attributes := attrs
def plain (name : String) (sup : Option ClassId) : Class where
  name := name
  kind := .ordinary
  loader := none
  accessFlags := 33
  super := sup
  interfaces := #[]
  cf := none
  fields := #[]
  methods := #[]
  instanceTypes := #[]
  staticTypes := #[]
  resolved := #[]
  callSites := []
  init := .initialized
  statics := none
  mirror := none

def pool0 : Array CpInfo := pool [(5, u "<init>"), (0, u "()V"), (1, .class_ 10), (1, u "java/lang/Object")] 113

def k0m0 : Method := { name := "<init>", desc := "()V", sig := { parameters := [], returnType := none }, accessFlags := 1, code := none }
/-- java/lang/Object -/
def k0 : Class := { plain "java/lang/Object" none with
  accessFlags := 33
  interfaces := #[]
  cf := some (fileOf pool0 8 #[] #[{ accessFlags := 1, nameIndex := 5, descriptorIndex := 6, attributes := #[] }] 33 0 #[] #[])
  fields := #[]
  methods := #[k0m0]
  instanceTypes := #[]
  staticTypes := #[]
  resolved := Array.replicate 124 none
  statics := none }

def pool1 : Array CpInfo := pool [(2, .class_ 4), (1, u "java/lang/Object"), (0, u "<init>"), (0, u "()V"), (0, .class_ 8), (0, u "com/example/final_marking/finalmarking/net/Guard$Operator"), (0, .fieldref 7 10), (0, .nameAndType 11 12), (0, u "EQUAL"), (0, u "Lcom/example/final_marking/finalmarking/net/Guard$Operator;"), (0, .fieldref 7 14), (0, .nameAndType 15 12), (0, u "NOT_EQUAL"), (0, .fieldref 7 17), (0, .nameAndType 18 12), (0, u "LESS"), (0, .fieldref 7 20), (0, .nameAndType 21 12), (0, u "LESS_OR_EQUAL"), (0, .fieldref 7 23), (0, .nameAndType 24 12), (0, u "GREATER"), (0, .fieldref 7 26), (0, .nameAndType 27 12), (0, u "GREATER_OR_EQUAL"), (0, .integer 2147483647), (0, .methodref 7 30), (0, .nameAndType 31 32), (0, u "orders"), (0, u "()Z"), (0, .methodref 7 34), (0, .nameAndType 35 36), (0, u "symbol"), (0, u "()Ljava/lang/String;"), (0, .methodref 38 39), (0, .class_ 40), (0, .nameAndType 41 42), (0, u "java/lang/String"), (0, u "charAt"), (0, u "(I)C"), (0, .class_ 44), (0, u "com/example/final_marking/finalmarking/net/OperatorOrdersPinLaw"), (2, u "law"), (0, u "(I)Z")] 9

def k1m0 : Method := { name := "<init>", desc := "()V", sig := { parameters := [], returnType := none }, accessFlags := 1, code := none }
def k1c1 : Code := { maxStack := 4, maxLocals := 9, code := code, exceptionTable := #[], attributes := #[] }
def k1m1 : Method := { name := "law", desc := "(I)Z", sig := { parameters := [.int], returnType := some .boolean }, accessFlags := 9, code := some k1c1 }
/-- com/example/final_marking/finalmarking/net/OperatorOrdersPinLaw -/
def k1 : Class := { plain "com/example/final_marking/finalmarking/net/OperatorOrdersPinLaw" (some 0) with
  accessFlags := 49
  interfaces := #[]
  cf := some (fileOf pool1 43 #[] #[{ accessFlags := 1, nameIndex := 5, descriptorIndex := 6, attributes := #[] }, { accessFlags := 9, nameIndex := 47, descriptorIndex := 48, attributes := #[] }] 49 2 #[] #[])
  fields := #[]
  methods := #[k1m0, k1m1]
  instanceTypes := #[]
  staticTypes := #[]
  resolved := Array.replicate 58 none
  statics := none }

def pool2 : Array CpInfo := pool [(1, .class_ 2), (0, u "java/lang/constant/Constable"), (0, .class_ 4), (0, u "java/lang/Object")] 6

/-- java/lang/constant/Constable -/
def k2 : Class := { plain "java/lang/constant/Constable" (some 0) with
  accessFlags := 1537
  interfaces := #[]
  cf := some (fileOf pool2 1 #[] #[] 1537 3 #[] #[])
  fields := #[]
  methods := #[]
  instanceTypes := #[]
  staticTypes := #[]
  resolved := Array.replicate 11 none
  statics := none }

def pool3 : Array CpInfo := pool [(1, .class_ 2), (0, u "java/lang/Comparable"), (0, .class_ 4), (0, u "java/lang/Object")] 7

/-- java/lang/Comparable -/
def k3 : Class := { plain "java/lang/Comparable" (some 0) with
  accessFlags := 1537
  interfaces := #[]
  cf := some (fileOf pool3 1 #[] #[] 1537 3 #[] #[])
  fields := #[]
  methods := #[]
  instanceTypes := #[]
  staticTypes := #[]
  resolved := Array.replicate 12 none
  statics := none }

def pool4 : Array CpInfo := pool [(1, .class_ 2), (0, u "java/io/Serializable"), (0, .class_ 4), (0, u "java/lang/Object")] 2

/-- java/io/Serializable -/
def k4 : Class := { plain "java/io/Serializable" (some 0) with
  accessFlags := 1537
  interfaces := #[]
  cf := some (fileOf pool4 1 #[] #[] 1537 3 #[] #[])
  fields := #[]
  methods := #[]
  instanceTypes := #[]
  staticTypes := #[]
  resolved := Array.replicate 7 none
  statics := none }

def pool5 : Array CpInfo := pool [(2, .class_ 4), (1, u "java/lang/Enum"), (0, u "name"), (0, u "Ljava/lang/String;"), (2, u "ordinal"), (0, u "I"), (1, .class_ 14), (1, u "java/lang/Object"), (4, u "hash"), (86, .class_ 108), (1, u "java/lang/Enum$EnumDesc"), (2, .class_ 112), (0, u "java/lang/constant/Constable"), (0, .class_ 114), (0, u "java/lang/Comparable"), (0, .class_ 116), (0, u "java/io/Serializable")] 87

/-- java/lang/Enum -/
def k5 : Class := { plain "java/lang/Enum" (some 0) with
  accessFlags := 1057
  interfaces := #[2, 3, 4]
  cf := some (fileOf pool5 2 #[.nestMembers #[106]] #[] 1057 12 #[111, 113, 115] #[{ accessFlags := 18, nameIndex := 5, descriptorIndex := 6, attributes := #[] }, { accessFlags := 18, nameIndex := 9, descriptorIndex := 10, attributes := #[] }, { accessFlags := 2, nameIndex := 19, descriptorIndex := 10, attributes := #[] }])
  fields := #[{ name := "name", type := (.object "java/lang/String"), accessFlags := 18, slot := 0, constantValue := 0 }, { name := "ordinal", type := .int, accessFlags := 18, slot := 1, constantValue := 0 }, { name := "hash", type := .int, accessFlags := 2, slot := 2, constantValue := 0 }]
  methods := #[]
  instanceTypes := #[(.object "java/lang/String"), .int, .int]
  staticTypes := #[]
  resolved := Array.replicate 204 none
  statics := none }

def pool6 : Array CpInfo := pool [(1, .class_ 2), (0, u "com/example/final_marking/finalmarking/net/Guard$Operator"), (0, .fieldref 1 4), (0, .nameAndType 5 6), (0, u "EQUAL"), (0, u "Lcom/example/final_marking/finalmarking/net/Guard$Operator;"), (0, .fieldref 1 8), (0, .nameAndType 9 6), (0, u "NOT_EQUAL"), (2, u "LESS"), (2, u "LESS_OR_EQUAL"), (2, u "GREATER"), (2, u "GREATER_OR_EQUAL"), (2, u "$VALUES"), (0, u "[Lcom/example/final_marking/finalmarking/net/Guard$Operator;"), (6, .class_ 34), (1, u "java/lang/Enum"), (6, .fieldref 1 42), (0, .nameAndType 43 44), (0, u "symbol"), (0, u "Ljava/lang/String;"), (32, u "()Ljava/lang/String;"), (0, u "orders"), (0, u "()Z"), (7, .class_ 88), (0, u "com/example/final_marking/finalmarking/net/Guard")] 2

def k6c0 : Code := { maxStack := 1, maxLocals := 1, code := prog_38_method_4_code, exceptionTable := #[], attributes := #[] }
def k6m0 : Method := { name := "symbol", desc := "()Ljava/lang/String;", sig := { parameters := [], returnType := some (.object "java/lang/String") }, accessFlags := 1, code := some k6c0 }
def k6c1 : Code := { maxStack := 2, maxLocals := 1, code := prog_38_method_5_code, exceptionTable := #[], attributes := #[] }
def k6m1 : Method := { name := "orders", desc := "()Z", sig := { parameters := [], returnType := some .boolean }, accessFlags := 1, code := some k6c1 }
/-- com/example/final_marking/finalmarking/net/Guard$Operator -/
def k6 : Class := { plain "com/example/final_marking/finalmarking/net/Guard$Operator" (some 5) with
  accessFlags := 16433
  interfaces := #[]
  cf := some (fileOf pool6 1 #[.nestHost 87] #[{ accessFlags := 1, nameIndex := 43, descriptorIndex := 77, attributes := #[] }, { accessFlags := 1, nameIndex := 78, descriptorIndex := 79, attributes := #[] }] 16433 32 #[] #[{ accessFlags := 16409, nameIndex := 5, descriptorIndex := 6, attributes := #[] }, { accessFlags := 16409, nameIndex := 9, descriptorIndex := 6, attributes := #[] }, { accessFlags := 16409, nameIndex := 12, descriptorIndex := 6, attributes := #[] }, { accessFlags := 16409, nameIndex := 15, descriptorIndex := 6, attributes := #[] }, { accessFlags := 16409, nameIndex := 18, descriptorIndex := 6, attributes := #[] }, { accessFlags := 16409, nameIndex := 21, descriptorIndex := 6, attributes := #[] }, { accessFlags := 18, nameIndex := 43, descriptorIndex := 44, attributes := #[] }, { accessFlags := 4122, nameIndex := 24, descriptorIndex := 25, attributes := #[] }])
  fields := #[{ name := "EQUAL", type := (.object "com/example/final_marking/finalmarking/net/Guard$Operator"), accessFlags := 16409, slot := 0, constantValue := 0 }, { name := "NOT_EQUAL", type := (.object "com/example/final_marking/finalmarking/net/Guard$Operator"), accessFlags := 16409, slot := 1, constantValue := 0 }, { name := "LESS", type := (.object "com/example/final_marking/finalmarking/net/Guard$Operator"), accessFlags := 16409, slot := 2, constantValue := 0 }, { name := "LESS_OR_EQUAL", type := (.object "com/example/final_marking/finalmarking/net/Guard$Operator"), accessFlags := 16409, slot := 3, constantValue := 0 }, { name := "GREATER", type := (.object "com/example/final_marking/finalmarking/net/Guard$Operator"), accessFlags := 16409, slot := 4, constantValue := 0 }, { name := "GREATER_OR_EQUAL", type := (.object "com/example/final_marking/finalmarking/net/Guard$Operator"), accessFlags := 16409, slot := 5, constantValue := 0 }, { name := "symbol", type := (.object "java/lang/String"), accessFlags := 18, slot := 3, constantValue := 0 }, { name := "$VALUES", type := (.array (.object "com/example/final_marking/finalmarking/net/Guard$Operator")), accessFlags := 4122, slot := 6, constantValue := 0 }]
  methods := #[k6m0, k6m1]
  instanceTypes := #[(.object "java/lang/String"), .int, .int, (.object "java/lang/String")]
  staticTypes := #[(.object "com/example/final_marking/finalmarking/net/Guard$Operator"), (.object "com/example/final_marking/finalmarking/net/Guard$Operator"), (.object "com/example/final_marking/finalmarking/net/Guard$Operator"), (.object "com/example/final_marking/finalmarking/net/Guard$Operator"), (.object "com/example/final_marking/finalmarking/net/Guard$Operator"), (.object "com/example/final_marking/finalmarking/net/Guard$Operator"), (.array (.object "com/example/final_marking/finalmarking/net/Guard$Operator"))]
  resolved := Array.replicate 91 none
  statics := some 0 }

def pool7 : Array CpInfo := pool [(2, .class_ 4), (1, u "java/lang/CharSequence"), (42, .class_ 48), (0, u "java/lang/CharSequence$1CodePointIterator"), (10, .class_ 60), (0, u "java/lang/CharSequence$1CharIterator"), (5, .class_ 67), (0, u "java/lang/Object")] 63

/-- java/lang/CharSequence -/
def k7 : Class := { plain "java/lang/CharSequence" (some 0) with
  accessFlags := 1537
  interfaces := #[]
  cf := some (fileOf pool7 2 #[.nestMembers #[47, 59]] #[] 1537 66 #[] #[])
  fields := #[]
  methods := #[]
  instanceTypes := #[]
  staticTypes := #[]
  resolved := Array.replicate 131 none
  statics := none }

def pool8 : Array CpInfo := pool [(1, .class_ 2), (0, u "java/lang/constant/ConstantDesc"), (0, .class_ 4), (0, u "java/lang/Object")] 32

/-- java/lang/constant/ConstantDesc -/
def k8 : Class := { plain "java/lang/constant/ConstantDesc" (some 0) with
  accessFlags := 1537
  interfaces := #[]
  cf := some (fileOf pool8 1 #[] #[] 1537 3 #[] #[])
  fields := #[]
  methods := #[]
  instanceTypes := #[]
  staticTypes := #[]
  resolved := Array.replicate 37 none
  statics := none }

def pool9 : Array CpInfo := pool [(2, .class_ 4), (1, u "java/lang/Object"), (0, u "<init>"), (0, u "()V"), (2, .fieldref 10 11), (0, .class_ 12), (0, .nameAndType 13 14), (0, u "java/lang/String"), (0, u "value"), (0, u "[B"), (0, .fieldref 10 16), (0, .nameAndType 17 18), (0, u "coder"), (0, u "B"), (2, u "hash"), (0, u "I"), (2, u "hashIsZero"), (0, u "Z"), (11, .fieldref 10 39), (0, .nameAndType 40 26), (0, u "COMPACT_STRINGS"), (66, .class_ 109), (1, u "java/lang/StringLatin1"), (32, u "()Z"), (220, u "([BI)C"), (27, u "(II)V"), (35, u "(I)C"), (64, .methodref 10 493), (0, .nameAndType 494 142), (0, u "isLatin1"), (0, .methodref 107 496), (0, .nameAndType 497 363), (0, u "charAt"), (3, u "checkIndex"), (73, .class_ 576), (0, u "java/lang/CharSequence"), (22, u "CASE_INSENSITIVE_ORDER"), (0, u "Ljava/util/Comparator;"), (452, .fieldref 1054 1055), (0, .class_ 1056), (0, .nameAndType 1057 1058), (0, u "jdk/internal/util/Preconditions"), (0, u "SIOOBE_FORMATTER"), (0, u "Ljava/util/function/BiFunction;"), (0, .methodref 1054 1060), (0, .nameAndType 501 1061), (0, u "(IILjava/util/function/BiFunction;)I"), (39, u "serialPersistentFields"), (0, u "[Ljava/io/ObjectStreamField;"), (0, .class_ 1104), (0, u "java/lang/String$CaseInsensitiveComparator"), (1, .class_ 1107), (0, u "java/io/Serializable"), (0, .class_ 1109), (0, u "java/lang/Comparable"), (0, .class_ 1111), (0, u "java/lang/constant/Constable"), (0, .class_ 1113), (0, u "java/lang/constant/ConstantDesc"), (2, u "serialVersionUID"), (0, u "J"), (3, u "REPL"), (0, u "C"), (2, u "LATIN1"), (1, u "UTF16")] 323

def k9m0 : Method := { name := "<init>", desc := "()V", sig := { parameters := [], returnType := none }, accessFlags := 1, code := none }
def k9c1 : Code := { maxStack := 2, maxLocals := 2, code := jdk_42_method_56_code, exceptionTable := #[], attributes := #[] }
def k9m1 : Method := { name := "charAt", desc := "(I)C", sig := { parameters := [.int], returnType := some .char }, accessFlags := 1, code := some k9c1 }
def k9c2 : Code := { maxStack := 1, maxLocals := 1, code := jdk_42_method_154_code, exceptionTable := #[], attributes := #[] }
def k9m2 : Method := { name := "isLatin1", desc := "()Z", sig := { parameters := [], returnType := some .boolean }, accessFlags := 0, code := some k9c2 }
def k9c3 : Code := { maxStack := 3, maxLocals := 2, code := jdk_42_method_155_code, exceptionTable := #[], attributes := #[] }
def k9m3 : Method := { name := "checkIndex", desc := "(II)V", sig := { parameters := [.int, .int], returnType := none }, accessFlags := 8, code := some k9c3 }
/-- java/lang/String -/
def k9 : Class := { plain "java/lang/String" (some 0) with
  accessFlags := 49
  interfaces := #[4, 3, 7, 2, 8]
  cf := some (fileOf pool9 10 #[.nestMembers #[1103]] #[{ accessFlags := 1, nameIndex := 5, descriptorIndex := 6, attributes := #[] }, { accessFlags := 1, nameIndex := 497, descriptorIndex := 427, attributes := #[] }, { accessFlags := 0, nameIndex := 494, descriptorIndex := 142, attributes := #[] }, { accessFlags := 8, nameIndex := 501, descriptorIndex := 391, attributes := #[] }] 49 2 #[1106, 1108, 575, 1110, 1112] #[{ accessFlags := 18, nameIndex := 13, descriptorIndex := 14, attributes := #[] }, { accessFlags := 18, nameIndex := 17, descriptorIndex := 18, attributes := #[] }, { accessFlags := 2, nameIndex := 21, descriptorIndex := 22, attributes := #[] }, { accessFlags := 2, nameIndex := 25, descriptorIndex := 26, attributes := #[] }, { accessFlags := 26, nameIndex := 1116, descriptorIndex := 1117, attributes := #[] }, { accessFlags := 24, nameIndex := 40, descriptorIndex := 26, attributes := #[] }, { accessFlags := 26, nameIndex := 1101, descriptorIndex := 1102, attributes := #[] }, { accessFlags := 26, nameIndex := 1121, descriptorIndex := 1122, attributes := #[] }, { accessFlags := 25, nameIndex := 599, descriptorIndex := 600, attributes := #[] }, { accessFlags := 24, nameIndex := 1125, descriptorIndex := 18, attributes := #[] }, { accessFlags := 24, nameIndex := 1127, descriptorIndex := 18, attributes := #[] }])
  fields := #[{ name := "value", type := (.array .byte), accessFlags := 18, slot := 0, constantValue := 0 }, { name := "coder", type := .byte, accessFlags := 18, slot := 1, constantValue := 0 }, { name := "hash", type := .int, accessFlags := 2, slot := 2, constantValue := 0 }, { name := "hashIsZero", type := .boolean, accessFlags := 2, slot := 3, constantValue := 0 }, { name := "serialVersionUID", type := .long, accessFlags := 26, slot := 0, constantValue := 0 }, { name := "COMPACT_STRINGS", type := .boolean, accessFlags := 24, slot := 1, constantValue := 0 }, { name := "serialPersistentFields", type := (.array (.object "java/io/ObjectStreamField")), accessFlags := 26, slot := 2, constantValue := 0 }, { name := "REPL", type := .char, accessFlags := 26, slot := 3, constantValue := 0 }, { name := "CASE_INSENSITIVE_ORDER", type := (.object "java/util/Comparator"), accessFlags := 25, slot := 4, constantValue := 0 }, { name := "LATIN1", type := .byte, accessFlags := 24, slot := 5, constantValue := 0 }, { name := "UTF16", type := .byte, accessFlags := 24, slot := 6, constantValue := 0 }]
  methods := #[k9m0, k9m1, k9m2, k9m3]
  instanceTypes := #[(.array .byte), .byte, .int, .boolean]
  staticTypes := #[.long, .boolean, (.array (.object "java/io/ObjectStreamField")), .char, (.object "java/util/Comparator"), .byte, .byte]
  resolved := Array.replicate 1451 none
  statics := some 1 }

def pool10 : Array CpInfo := pool [(1, .class_ 2), (0, u "java/lang/String"), (1, .class_ 6), (1, u "java/lang/Object"), (0, u "<init>"), (0, u "()V"), (0, .methodref 1 10), (0, .nameAndType 11 12), (0, u "checkIndex"), (0, u "(II)V"), (1, .class_ 16), (1, u "java/lang/StringLatin1"), (36, u "([BI)C"), (67, u "$assertionsDisabled"), (0, u "Z"), (98, .class_ 223), (1, u "java/lang/StringLatin1$LinesSpliterator"), (28, u "charAt"), (137, .class_ 391), (0, u "java/lang/StringLatin1$CharsSpliterator")] 3

def k10m0 : Method := { name := "<init>", desc := "()V", sig := { parameters := [], returnType := none }, accessFlags := 0, code := none }
def k10c1 : Code := { maxStack := 2, maxLocals := 2, code := jdk_43_method_2_code, exceptionTable := #[], attributes := #[] }
def k10m1 : Method := { name := "charAt", desc := "([BI)C", sig := { parameters := [(.array .byte), .int], returnType := some .char }, accessFlags := 9, code := some k10c1 }
/-- java/lang/StringLatin1 -/
def k10 : Class := { plain "java/lang/StringLatin1" (some 0) with
  accessFlags := 48
  interfaces := #[]
  cf := some (fileOf pool10 14 #[.nestMembers #[390, 221]] #[{ accessFlags := 0, nameIndex := 7, descriptorIndex := 8, attributes := #[] }, { accessFlags := 9, nameIndex := 252, descriptorIndex := 53, attributes := #[] }] 48 4 #[] #[{ accessFlags := 4120, nameIndex := 121, descriptorIndex := 122, attributes := #[] }])
  fields := #[{ name := "$assertionsDisabled", type := .boolean, accessFlags := 4120, slot := 0, constantValue := 0 }]
  methods := #[k10m0, k10m1]
  instanceTypes := #[]
  staticTypes := #[.boolean]
  resolved := Array.replicate 395 none
  statics := none }

def pool11 : Array CpInfo := pool [(2, .class_ 4), (1, u "java/lang/Object"), (0, u "<init>"), (0, u "()V"), (17, .class_ 26), (1, u "jdk/internal/util/Preconditions"), (6, u "checkIndex"), (21, .class_ 56), (0, u "jdk/internal/util/Preconditions$4"), (57, .class_ 115), (0, u "jdk/internal/util/Preconditions$1"), (7, u "SIOOBE_FORMATTER"), (0, u "Ljava/util/function/BiFunction;"), (0, .class_ 126), (0, u "jdk/internal/util/Preconditions$2"), (3, u "AIOOBE_FORMATTER"), (0, .class_ 132), (0, u "jdk/internal/util/Preconditions$3"), (3, u "IOOBE_FORMATTER"), (41, u "(IILjava/util/function/BiFunction;)I")] 15

def k11m0 : Method := { name := "<init>", desc := "()V", sig := { parameters := [], returnType := none }, accessFlags := 1, code := none }
def k11c1 : Code := { maxStack := 3, maxLocals := 3, code := jdk_41_method_11_code, exceptionTable := #[], attributes := #[] }
def k11m1 : Method := { name := "checkIndex", desc := "(IILjava/util/function/BiFunction;)I", sig := { parameters := [.int, .int, (.object "java/util/function/BiFunction")], returnType := some .int }, accessFlags := 9, code := some k11c1 }
/-- jdk/internal/util/Preconditions -/
def k11 : Class := { plain "jdk/internal/util/Preconditions" (some 0) with
  accessFlags := 33
  interfaces := #[]
  cf := some (fileOf pool11 24 #[.nestMembers #[55, 131, 125, 114]] #[{ accessFlags := 1, nameIndex := 5, descriptorIndex := 6, attributes := #[] }, { accessFlags := 9, nameIndex := 33, descriptorIndex := 178, attributes := #[] }] 33 2 #[] #[{ accessFlags := 25, nameIndex := 123, descriptorIndex := 124, attributes := #[] }, { accessFlags := 25, nameIndex := 130, descriptorIndex := 124, attributes := #[] }, { accessFlags := 25, nameIndex := 136, descriptorIndex := 124, attributes := #[] }])
  fields := #[{ name := "SIOOBE_FORMATTER", type := (.object "java/util/function/BiFunction"), accessFlags := 25, slot := 0, constantValue := 0 }, { name := "AIOOBE_FORMATTER", type := (.object "java/util/function/BiFunction"), accessFlags := 25, slot := 1, constantValue := 0 }, { name := "IOOBE_FORMATTER", type := (.object "java/util/function/BiFunction"), accessFlags := 25, slot := 2, constantValue := 0 }]
  methods := #[k11m0, k11m1]
  instanceTypes := #[]
  staticTypes := #[(.object "java/util/function/BiFunction"), (.object "java/util/function/BiFunction"), (.object "java/util/function/BiFunction")]
  resolved := Array.replicate 194 none
  statics := some 2 }

def pool12 : Array CpInfo := pool [(9, u "<init>"), (6, .class_ 18), (1, u "java/lang/Object"), (0, u "()V"), (1, .class_ 23), (1, u "jdk/internal/util/ArraysSupport"), (0, u "LOG2_ARRAY_LONG_INDEX_SCALE"), (0, u "I"), (2, u "U"), (0, u "Ljdk/internal/misc/Unsafe;"), (8, u "BIG_ENDIAN"), (0, u "Z"), (8, u "LOG2_BYTE_BIT_SIZE"), (4, u "LOG2_ARRAY_INT_INDEX_SCALE"), (54, u "JLA"), (0, u "Ljdk/internal/access/JavaLangAccess;"), (11, u "LOG2_ARRAY_BOOLEAN_INDEX_SCALE"), (9, u "LOG2_ARRAY_BYTE_INDEX_SCALE"), (5, u "LOG2_ARRAY_CHAR_INDEX_SCALE"), (5, u "LOG2_ARRAY_SHORT_INDEX_SCALE"), (18, u "LOG2_ARRAY_FLOAT_INDEX_SCALE"), (24, u "LOG2_ARRAY_DOUBLE_INDEX_SCALE"), (89, u "T_BOOLEAN"), (2, u "T_CHAR"), (1, u "T_FLOAT"), (1, u "T_DOUBLE"), (1, u "T_BYTE"), (1, u "T_SHORT"), (1, u "T_INT"), (1, u "T_LONG"), (1, u "SOFT_MAX_ARRAY_LENGTH")] 83

def k12m0 : Method := { name := "<init>", desc := "()V", sig := { parameters := [], returnType := none }, accessFlags := 2, code := none }
/-- jdk/internal/util/ArraysSupport -/
def k12 : Class := { plain "jdk/internal/util/ArraysSupport" (some 0) with
  accessFlags := 33
  interfaces := #[]
  cf := some (fileOf pool12 21 #[] #[{ accessFlags := 2, nameIndex := 9, descriptorIndex := 19, attributes := #[] }] 33 16 #[] #[{ accessFlags := 24, nameIndex := 28, descriptorIndex := 29, attributes := #[] }, { accessFlags := 26, nameIndex := 38, descriptorIndex := 39, attributes := #[] }, { accessFlags := 25, nameIndex := 121, descriptorIndex := 25, attributes := #[] }, { accessFlags := 25, nameIndex := 131, descriptorIndex := 25, attributes := #[] }, { accessFlags := 25, nameIndex := 137, descriptorIndex := 25, attributes := #[] }, { accessFlags := 25, nameIndex := 143, descriptorIndex := 25, attributes := #[] }, { accessFlags := 25, nameIndex := 53, descriptorIndex := 25, attributes := #[] }, { accessFlags := 25, nameIndex := 24, descriptorIndex := 25, attributes := #[] }, { accessFlags := 25, nameIndex := 162, descriptorIndex := 25, attributes := #[] }, { accessFlags := 25, nameIndex := 187, descriptorIndex := 25, attributes := #[] }, { accessFlags := 26, nameIndex := 48, descriptorIndex := 25, attributes := #[] }, { accessFlags := 25, nameIndex := 277, descriptorIndex := 25, attributes := #[] }, { accessFlags := 25, nameIndex := 280, descriptorIndex := 25, attributes := #[] }, { accessFlags := 25, nameIndex := 282, descriptorIndex := 25, attributes := #[] }, { accessFlags := 25, nameIndex := 284, descriptorIndex := 25, attributes := #[] }, { accessFlags := 25, nameIndex := 286, descriptorIndex := 25, attributes := #[] }, { accessFlags := 25, nameIndex := 288, descriptorIndex := 25, attributes := #[] }, { accessFlags := 25, nameIndex := 290, descriptorIndex := 25, attributes := #[] }, { accessFlags := 25, nameIndex := 292, descriptorIndex := 25, attributes := #[] }, { accessFlags := 26, nameIndex := 108, descriptorIndex := 109, attributes := #[] }, { accessFlags := 25, nameIndex := 294, descriptorIndex := 25, attributes := #[] }])
  fields := #[{ name := "U", type := (.object "jdk/internal/misc/Unsafe"), accessFlags := 24, slot := 0, constantValue := 0 }, { name := "BIG_ENDIAN", type := .boolean, accessFlags := 26, slot := 1, constantValue := 0 }, { name := "LOG2_ARRAY_BOOLEAN_INDEX_SCALE", type := .int, accessFlags := 25, slot := 2, constantValue := 0 }, { name := "LOG2_ARRAY_BYTE_INDEX_SCALE", type := .int, accessFlags := 25, slot := 3, constantValue := 0 }, { name := "LOG2_ARRAY_CHAR_INDEX_SCALE", type := .int, accessFlags := 25, slot := 4, constantValue := 0 }, { name := "LOG2_ARRAY_SHORT_INDEX_SCALE", type := .int, accessFlags := 25, slot := 5, constantValue := 0 }, { name := "LOG2_ARRAY_INT_INDEX_SCALE", type := .int, accessFlags := 25, slot := 6, constantValue := 0 }, { name := "LOG2_ARRAY_LONG_INDEX_SCALE", type := .int, accessFlags := 25, slot := 7, constantValue := 0 }, { name := "LOG2_ARRAY_FLOAT_INDEX_SCALE", type := .int, accessFlags := 25, slot := 8, constantValue := 0 }, { name := "LOG2_ARRAY_DOUBLE_INDEX_SCALE", type := .int, accessFlags := 25, slot := 9, constantValue := 0 }, { name := "LOG2_BYTE_BIT_SIZE", type := .int, accessFlags := 26, slot := 10, constantValue := 0 }, { name := "T_BOOLEAN", type := .int, accessFlags := 25, slot := 11, constantValue := 0 }, { name := "T_CHAR", type := .int, accessFlags := 25, slot := 12, constantValue := 0 }, { name := "T_FLOAT", type := .int, accessFlags := 25, slot := 13, constantValue := 0 }, { name := "T_DOUBLE", type := .int, accessFlags := 25, slot := 14, constantValue := 0 }, { name := "T_BYTE", type := .int, accessFlags := 25, slot := 15, constantValue := 0 }, { name := "T_SHORT", type := .int, accessFlags := 25, slot := 16, constantValue := 0 }, { name := "T_INT", type := .int, accessFlags := 25, slot := 17, constantValue := 0 }, { name := "T_LONG", type := .int, accessFlags := 25, slot := 18, constantValue := 0 }, { name := "JLA", type := (.object "jdk/internal/access/JavaLangAccess"), accessFlags := 26, slot := 19, constantValue := 0 }, { name := "SOFT_MAX_ARRAY_LENGTH", type := .int, accessFlags := 25, slot := 20, constantValue := 0 }]
  methods := #[k12m0]
  instanceTypes := #[]
  staticTypes := #[(.object "jdk/internal/misc/Unsafe"), .boolean, .int, .int, .int, .int, .int, .int, .int, .int, .int, .int, .int, .int, .int, .int, .int, .int, .int, (.object "jdk/internal/access/JavaLangAccess"), .int]
  resolved := Array.replicate 378 none
  statics := none }

def pool13 : Array CpInfo := pool [(1, u "java/lang/Cloneable"), (0, .class_ 1), (0, u "java/lang/Object"), (0, .class_ 3)] 3

/-- java/lang/Cloneable -/
def k13 : Class := { plain "java/lang/Cloneable" (some 0) with
  accessFlags := 1537
  interfaces := #[]
  cf := some (fileOf pool13 2 #[] #[] 1537 4 #[] #[])
  fields := #[]
  methods := #[]
  instanceTypes := #[]
  staticTypes := #[]
  resolved := Array.replicate 8 none
  statics := none }

/-- the primitive byte -/
def k14 : Class := { plain "byte" none with kind := .primitive 'B', accessFlags := 0x411 }
/-- [B -/
def k15 : Class := { plain "[B" (some 0) with kind := .array 14 .byte, interfaces := #[13, 4], accessFlags := 1041 }

/-- the primitive int -/
def k16 : Class := { plain "int" none with kind := .primitive 'I', accessFlags := 0x411 }
/-- [I -/
def k17 : Class := { plain "[I" (some 0) with kind := .array 16 .int, interfaces := #[13, 4], accessFlags := 1041 }

/-- [Lcom/example/final_marking/finalmarking/net/Guard$Operator; -/
def k18 : Class := { plain "[Lcom/example/final_marking/finalmarking/net/Guard$Operator;" (some 0) with kind := .array 6 (.object "com/example/final_marking/finalmarking/net/Guard$Operator"), interfaces := #[13, 4], accessFlags := 1041 }

def heap : Heap := #[{ cls := 6, slots := #[.ref 5, .ref 8, .ref 11, .ref 14, .ref 17, .ref 20, .null], vm := .statics 6 },
  { cls := 9, slots := #[.long 0, .int 1, .null, .int 0, .null, .int 0, .int 0], vm := .statics 9 },
  { cls := 11, slots := #[.null, .null, .null], vm := .statics 11 },
  { cls := 15, slots := #[.int 61, .int 61], vm := .none },
  { cls := 9, slots := #[.ref 3, .int 0, .int 0, .int 0], vm := .none },
  { cls := 6, slots := #[.null, .int 0, .int 0, .ref 4], vm := .none },
  { cls := 15, slots := #[.int 33, .int 61], vm := .none },
  { cls := 9, slots := #[.ref 6, .int 0, .int 0, .int 0], vm := .none },
  { cls := 6, slots := #[.null, .int 1, .int 0, .ref 7], vm := .none },
  { cls := 15, slots := #[.int 60], vm := .none },
  { cls := 9, slots := #[.ref 9, .int 0, .int 0, .int 0], vm := .none },
  { cls := 6, slots := #[.null, .int 2, .int 0, .ref 10], vm := .none },
  { cls := 15, slots := #[.int 60, .int 61], vm := .none },
  { cls := 9, slots := #[.ref 12, .int 0, .int 0, .int 0], vm := .none },
  { cls := 6, slots := #[.null, .int 3, .int 0, .ref 13], vm := .none },
  { cls := 15, slots := #[.int 62], vm := .none },
  { cls := 9, slots := #[.ref 15, .int 0, .int 0, .int 0], vm := .none },
  { cls := 6, slots := #[.null, .int 4, .int 0, .ref 16], vm := .none },
  { cls := 15, slots := #[.int 62, .int 61], vm := .none },
  { cls := 9, slots := #[.ref 18, .int 0, .int 0, .int 0], vm := .none },
  { cls := 6, slots := #[.null, .int 5, .int 0, .ref 19], vm := .none }]
def classes : Array Class := #[k0, k1, k2, k3, k4, k5, k6, k7, k8, k9, k10, k11, k12, k13, k14, k15, k16, k17, k18]
def interned : List (Array UInt16 × Addr) := []
def slotsUsed : Nat := 75
def theMethod : MethodId := ⟨1, 1⟩
def args0 : Array Value := #[.int 5]
def aboutOver (below : List Frame) : State where
  vm := { classes := classes, interned := interned.toArray }
  heap := heap
  slotsUsed := slotsUsed
  threads := #[{ frames := .invoking theMethod args0 :: below }]
def below0 : List Frame := [.native { method := ⟨0, 0⟩, args := #[] }]
def about1 : State := aboutOver below0
def p0 : Program := .bare "" "" ""
def e0 : Env := launch0.env 0 0 0
theorem w_frames : about1.frames = Frame.invoking theMethod args0 :: below0 := rfl
set_option maxRecDepth 65536 in
theorem w_args : argsFit about1.vm theMethod args0 = true := by decide +kernel
set_option maxRecDepth 65536 in
theorem w_heap : heapFits about1 = true := by decide +kernel
set_option maxRecDepth 65536 in
theorem w_runnable : about1.curStatus? = some .runnable := by decide +kernel
set_option maxRecDepth 65536 in
theorem w_alone : about1.alone = true := by decide +kernel
set_option maxRecDepth 65536 in
theorem w_named : about1.methodNamed? x = some theMethod := by decide +kernel
set_option maxRecDepth 65536 in
theorem w_hears : about1.hears theMethod below0 = true := by decide +kernel
set_option maxRecDepth 65536 in
theorem w_ripe : about1.ripe theMethod args0 below0 = true := by decide +kernel
theorem w_running : about1.status = .running := rfl
set_option maxRecDepth 65536 in
theorem w_room : about1.hasRoom e0.platform room_1 = true :=
  launch0.hasRoom_least _ room_1 (by decide +kernel) (by decide +kernel) (by decide +kernel) (by decide +kernel) (by decide +kernel) (by decide +kernel)
theorem allAtoms_all (ts : List Jvm.Cond) (a : Array Jvm.Value) (st : Jvm.State) : (allAtoms ts).before a st = ts.all (fun c => c.before a st) := by
  induction ts with
  | nil => rfl
  | cons c t ih =>
    show (Jvm.Cond.and c (allAtoms t)).before a st = _
    rw [Jvm.Cond.before_and, ih, List.all_cons]
def words1 : List Jvm.Cond := Jvm.Cond.code x code maxLocals ret :: tables_1
/-- a 'code' word, met by the world's own term for the bytes: nothing is compared byte by byte -/
theorem code_word {y : MethodName} {bytes : ByteArray} {mx : Nat} {rt : Option FieldType} {a : Array Value} {s : State} {m : MethodId} {meth : Method} {c : Code} (h1 : s.methodNamed? y = some m) (h2 : s.vm.method? m = some meth) (h3 : meth.code = some c) (h4 : c.code = bytes)
    (h5 : (c.maxLocals == mx && c.exceptionTable.isEmpty && decide (c.maxStack ≤ mostOperands) && decide (meth.sig.returnType = rt) && !meth.locks && decide (parseMethodDescriptor y.desc = some meth.sig)) = true) : (Jvm.Cond.code y bytes mx rt).before a s = true := by
  simp only [Bool.and_eq_true, beq_iff_eq, Bool.not_eq_true', decide_eq_true_eq] at h5
  obtain ⟨⟨⟨⟨⟨g1, g2⟩, g3⟩, g4⟩, g5⟩, g6⟩ := h5
  simp [Cond.before, Cond.holds, Cond.value, h1, h2, h3, h4, g1, g2, g3, g4, g5, g6]
def isCode : Jvm.Cond → Bool
  | .code _ _ _ _ => true
  | _ => false
theorem all_split {L : List Jvm.Cond} {P : Jvm.Cond → Bool} (h1 : L.all (fun c => isCode c || P c) = true) (h2 : ∀ c ∈ L.filter isCode, P c = true) : L.all P = true := by
  refine List.all_eq_true.mpr fun c hc => ?_
  have h := List.all_eq_true.mp h1 c hc
  rcases Bool.eq_false_or_eq_true (isCode c) with hi | hi
  · exact h2 c (List.mem_filter.mpr ⟨hc, hi⟩)
  · simpa [hi] using h
set_option maxRecDepth 65536 in
theorem w_c0 : (Jvm.Cond.code x code maxLocals ret).before args0 about1 = true := code_word (m := ⟨1, 1⟩) (meth := k1m1) (c := k1c1) (by decide +kernel) rfl rfl rfl (by decide +kernel)
set_option maxRecDepth 65536 in
theorem w_c1 : (Jvm.Cond.code ({ cls := "com/example/final_marking/finalmarking/net/Guard$Operator", name := "orders", desc := "()Z" } : Jvm.MethodName) prog_38_method_5_code (1 : Nat) (Option.some Jvm.ClassFile.FieldType.boolean)).before args0 about1 = true := code_word (m := ⟨6, 1⟩) (meth := k6m1) (c := k6c1) (by decide +kernel) rfl rfl rfl (by decide +kernel)
set_option maxRecDepth 65536 in
theorem w_c2 : (Jvm.Cond.code ({ cls := "com/example/final_marking/finalmarking/net/Guard$Operator", name := "symbol", desc := "()Ljava/lang/String;" } : Jvm.MethodName) prog_38_method_4_code (1 : Nat) (Option.some (Jvm.ClassFile.FieldType.object "java/lang/String"))).before args0 about1 = true := code_word (m := ⟨6, 0⟩) (meth := k6m0) (c := k6c0) (by decide +kernel) rfl rfl rfl (by decide +kernel)
set_option maxRecDepth 65536 in
theorem w_c3 : (Jvm.Cond.code ({ cls := "java/lang/String", name := "charAt", desc := "(I)C" } : Jvm.MethodName) jdk_42_method_56_code (2 : Nat) (Option.some Jvm.ClassFile.FieldType.char)).before args0 about1 = true := code_word (m := ⟨9, 1⟩) (meth := k9m1) (c := k9c1) (by decide +kernel) rfl rfl rfl (by decide +kernel)
set_option maxRecDepth 65536 in
theorem w_c4 : (Jvm.Cond.code ({ cls := "java/lang/String", name := "isLatin1", desc := "()Z" } : Jvm.MethodName) jdk_42_method_154_code (1 : Nat) (Option.some Jvm.ClassFile.FieldType.boolean)).before args0 about1 = true := code_word (m := ⟨9, 2⟩) (meth := k9m2) (c := k9c2) (by decide +kernel) rfl rfl rfl (by decide +kernel)
set_option maxRecDepth 65536 in
theorem w_c5 : (Jvm.Cond.code ({ cls := "java/lang/StringLatin1", name := "charAt", desc := "([BI)C" } : Jvm.MethodName) jdk_43_method_2_code (2 : Nat) (Option.some Jvm.ClassFile.FieldType.char)).before args0 about1 = true := code_word (m := ⟨10, 1⟩) (meth := k10m1) (c := k10c1) (by decide +kernel) rfl rfl rfl (by decide +kernel)
set_option maxRecDepth 65536 in
theorem w_c6 : (Jvm.Cond.code ({ cls := "java/lang/String", name := "checkIndex", desc := "(II)V" } : Jvm.MethodName) jdk_42_method_155_code (2 : Nat) (Option.none : Option Jvm.ClassFile.FieldType)).before args0 about1 = true := code_word (m := ⟨9, 3⟩) (meth := k9m3) (c := k9c3) (by decide +kernel) rfl rfl rfl (by decide +kernel)
set_option maxRecDepth 65536 in
theorem w_c7 : (Jvm.Cond.code ({ cls := "jdk/internal/util/Preconditions", name := "checkIndex", desc := "(IILjava/util/function/BiFunction;)I" } : Jvm.MethodName) jdk_41_method_11_code (3 : Nat) (Option.some Jvm.ClassFile.FieldType.int)).before args0 about1 = true := code_word (m := ⟨11, 1⟩) (meth := k11m1) (c := k11c1) (by decide +kernel) rfl rfl rfl (by decide +kernel)
def codes1 : List Jvm.Cond := [Jvm.Cond.code x code maxLocals ret, Jvm.Cond.code ({ cls := "com/example/final_marking/finalmarking/net/Guard$Operator", name := "orders", desc := "()Z" } : Jvm.MethodName) prog_38_method_5_code (1 : Nat) (Option.some Jvm.ClassFile.FieldType.boolean), Jvm.Cond.code ({ cls := "com/example/final_marking/finalmarking/net/Guard$Operator", name := "symbol", desc := "()Ljava/lang/String;" } : Jvm.MethodName) prog_38_method_4_code (1 : Nat) (Option.some (Jvm.ClassFile.FieldType.object "java/lang/String")), Jvm.Cond.code ({ cls := "java/lang/String", name := "charAt", desc := "(I)C" } : Jvm.MethodName) jdk_42_method_56_code (2 : Nat) (Option.some Jvm.ClassFile.FieldType.char), Jvm.Cond.code ({ cls := "java/lang/String", name := "isLatin1", desc := "()Z" } : Jvm.MethodName) jdk_42_method_154_code (1 : Nat) (Option.some Jvm.ClassFile.FieldType.boolean), Jvm.Cond.code ({ cls := "java/lang/StringLatin1", name := "charAt", desc := "([BI)C" } : Jvm.MethodName) jdk_43_method_2_code (2 : Nat) (Option.some Jvm.ClassFile.FieldType.char), Jvm.Cond.code ({ cls := "java/lang/String", name := "checkIndex", desc := "(II)V" } : Jvm.MethodName) jdk_42_method_155_code (2 : Nat) (Option.none : Option Jvm.ClassFile.FieldType), Jvm.Cond.code ({ cls := "jdk/internal/util/Preconditions", name := "checkIndex", desc := "(IILjava/util/function/BiFunction;)I" } : Jvm.MethodName) jdk_41_method_11_code (3 : Nat) (Option.some Jvm.ClassFile.FieldType.int)]
set_option maxRecDepth 65536 in
theorem codes_eq : words1.filter isCode = codes1 := rfl
theorem w_codes : ∀ c ∈ words1.filter isCode, c.before args0 about1 = true := by
  rw [codes_eq]
  intro c hc
  simp only [codes1, List.mem_cons, List.not_mem_nil, or_false] at hc
  rcases hc with rfl | rfl | rfl | rfl | rfl | rfl | rfl | rfl
  · exact w_c0
  · exact w_c1
  · exact w_c2
  · exact w_c3
  · exact w_c4
  · exact w_c5
  · exact w_c6
  · exact w_c7
set_option maxRecDepth 65536 in
theorem w_t1 : (words1.take 24).all (fun c => isCode c || c.before args0 about1) = true := by decide +kernel
set_option maxRecDepth 65536 in
theorem w_t2 : ((words1.drop 24).take 24).all (fun c => isCode c || c.before args0 about1) = true := by decide +kernel
set_option maxRecDepth 65536 in
theorem w_t3 : ((words1.drop 24).drop 24).all (fun c => isCode c || c.before args0 about1) = true := by decide +kernel
theorem w_tables : (allAtoms (Jvm.Cond.code x code maxLocals ret :: tables_1)).before args0 about1 = true := by
  rw [allAtoms_all]
  show words1.all (fun c => c.before args0 about1) = true
  refine all_split ?_ w_codes
  rw [← List.take_append_drop 24 words1, List.all_append, w_t1, ← List.take_append_drop 24 (words1.drop 24), List.all_append, w_t2, w_t3]
  rfl
set_option maxRecDepth 65536 in
theorem w_rest : rest_1_c.before args0 about1 = true := by decide +kernel
set_option maxRecDepth 65536 in
theorem w_case : (Jvm.Cond.and given_1 narrow_1).before args0 about1 = true := by decide +kernel
theorem w_applies : (headSpec (Jvm.Cond.code x code maxLocals ret :: tables_1) room_1).applies x e0.platform about1 = true :=
  (Spec.applies_iff w_frames).mpr ⟨w_running, w_runnable, w_alone, w_named, w_hears, w_ripe, w_room, w_tables⟩
theorem atStart : AtStart classFile x code maxLocals ret World_1 tables_1 room_1 Calls_1 rest_1 Pre_1 launch0 p0 e0 about1 theMethod args0 below0 :=
  ⟨lists_1, trivial, launch0.admits_env _ _ _, launch0.least_env, fairChoices_fair.cas, fairChoices_fair.clock, w_frames, w_args, w_heap, w_applies, trivial, w_rest, w_case⟩
end start1
theorem witness_1 : WitnessClaimed_1 := ⟨start1.p0, start1.e0, start1.about1, start1.theMethod, start1.args0, start1.below0, start1.atStart⟩
end Jvm.Pilot.@@N@@
