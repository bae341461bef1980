import JvmDerived
import JvmDerived.Pilot.@@N@@Statement
import JvmDerived.Pilot.@@N@@Code
set_option linter.unusedVariables false
set_option linter.unusedSimpArgs false
namespace Jvm.RoadKit
open Sem ClassFile Op Lib Jvm.Stand Jvm.Free Jvm.LawKit
section New
variable {p : Program} {l : Launch} {e : Env} {R : Room} {s : State} {m : MethodId} {args : Array Value} {below : List Frame} {meth : Method} {c : Code} {T : State} {locs : List Loc} {cells slots : Nat}
theorem retI (X : Stand p l e R s m args below meth c T locs cells slots) (hx : p.tables.exec = Jvm.exec) {pc : Nat} {Ls : Array Slot} {z : Int32} {rest : List Value} (hret : meth.sig.returnType = some .int) (hd : decode c.code pc = .ok (.ireturn, 1)) {fs : List Frame}
    (hl : ∀ (f : JFrame) (acts : List Action), f.method = m → f.locked = none → f.entered = [] → (doReturn e (T.setTop f) acts (some (.int z))).1 = T.setFrames fs) : Steps p.tables e below (T.setTop (mkF m pc Ls (.int z :: rest))) (T.setFrames fs) := by
  have hm' : T.vm.method? m = some meth := X.method'
  have hn : narrow .int (.int z) = .int z := rfl
  show Steps p.tables e below (T.setTop { method := m, pc := pc, locals := Ls, stack := _ :: rest, locked := none }) _
  jvm_step X.here [X.here.top, hx, hd, hm', hret, hn]
  first | (intro acts; rw [hl _ acts rfl rfl rfl]) | rw [hl _ _ rfl rfl rfl]
  exact Steps.refl _
end New
end Jvm.RoadKit
namespace Jvm.OwnRuns
open Jvm Sem ClassFile Op Lib Jvm.Stand Jvm.Free Jvm.LawKit Jvm.RoadKit
/-- from the state T the invocation comes to its end, and there Φ holds -/
def Runs (tb : Tables) (e : Env) (below : List Frame) (Φ : Outcome → State → Prop) (T : State) : Prop := ∃ s₂ o, Steps tb e below T s₂ ∧ s₂.status = .running ∧ Ended s₂ below o ∧ Φ o s₂
abbrev Phi (s : State) (Q : Option Value → Heap → List Loc → Prop) (k n : Nat) (o : Outcome) (U' : State) : Prop := ∃ v L, o = .returned v ∧ Q v U'.heap L ∧ FrameEnd s o U' L k n
theorem Runs.st {tb : Tables} {e : Env} {below : List Frame} {Φ : Outcome → State → Prop} {T T' : State} (h : ∀ t, Steps tb e below T' t → Steps tb e below T t) (r : Runs tb e below Φ T') : Runs tb e below Φ T := by
  obtain ⟨a, o, h1, h2⟩ := r
  exact ⟨a, o, h a h1, h2⟩
theorem Runs.tr {tb : Tables} {e : Env} {below : List Frame} {Φ : Outcome → State → Prop} {T T' : State} (h : Steps tb e below T T') (r : Runs tb e below Φ T') : Runs tb e below Φ T := Runs.st (fun _ k => h.trans k) r
section Laws
variable {p : Program} {l : Launch} {e : Env} {R : Room} {s : State} {m : MethodId} {args : Array Value} {below : List Frame} {meth : Method} {c : Code} {T : State} {locs : List Loc} {cells slots : Nat}
theorem Runs.ret (X : Stand p l e R s m args below meth c T locs cells slots) (hlk : meth.locks = false) {v : Option Value} (hv : meth.sig.returnType = none → v = none) {Q : Option Value → Heap → List Loc → Prop} {k n : Nat} (hk : cells ≤ k) (hn : slots ≤ n) (hQ : Q v T.heap locs) {T0 : State}
    (hst : ∀ fs : List Frame, (∀ (f : JFrame) (acts : List Action), f.method = m → f.locked = none → f.entered = [] → (doReturn e (T.setTop f) acts v).1 = T.setFrames fs) → Steps p.tables e below T0 (T.setFrames fs)) : Runs p.tables e below (Phi s Q k n) T0 := by
  obtain ⟨fs, hr, hrun, hended, hW, hsame⟩ := X.leave hv hlk
  exact ⟨_, _, hst fs hr, hrun, hended, _, _, rfl, hQ, ⟨_, rfl⟩, hW, hsame.mono hk hn⟩
theorem wider (X : Stand p l e R s m args below meth c T locs cells slots) {c' s' : Nat} (hc : cells ≤ c') (hs : slots ≤ s') : Stand p l e R s m args below meth c T locs c' s' := { X with same := X.same.mono hc hs }
abbrev PhiW (s : State) (Q : Option Value → Heap → List Loc → Prop) (k n : Nat) (o : Outcome) (U' : State) : Prop := ∃ v L, o = .returned v ∧ Q v U'.heap L ∧ ReturnedEndW s o U' L k n
theorem Runs.retW {vm₁ : Vm} (X : Stand p l e R (s.setVm vm₁) m args below meth c T locs cells slots) {n1 : Nat} (hS : s.Since vm₁ n1) (hk1 : n1 ≤ T.heap.size) (hlk : meth.locks = false) {v : Option Value} (hv : meth.sig.returnType = none → v = none) {Q : Option Value → Heap → List Loc → Prop} {k n : Nat} (hk : cells ≤ k) (hn : slots ≤ n) (hQ : Q v T.heap locs) {T0 : State}
    (hst : ∀ fs : List Frame, (∀ (f : JFrame) (acts : List Action), f.method = m → f.locked = none → f.entered = [] → (doReturn e (T.setTop f) acts v).1 = T.setFrames fs) → Steps p.tables e below T0 (T.setFrames fs)) : Runs p.tables e below (PhiW s Q k n) T0 := by
  obtain ⟨fs, hr, hrun, hended, hW⟩ := (wider X hk hn).leaveW hS hk1 hv hlk
  exact ⟨_, _, hst fs hr, hrun, hended, _, _, rfl, hQ, hW⟩
abbrev PhiH (Z : State) (EL : List (String × Nat)) (s : State) (Q : Option Value → Heap → List Loc → Prop) (k n : Nat) (o : Outcome) (U' : State) : Prop := ∃ v L, o = .returned v ∧ Q v U'.heap L ∧ CHr Z EL s.vm s.heap U'.vm U'.heap ∧ ReturnedEndW s o U' L k n
theorem Runs.retH {Z : State} {EL : List (String × Nat)} {vm₁ : Vm} (X : Stand p l e R (s.setVm vm₁) m args below meth c T locs cells slots) {n1 : Nat} (hS : s.Since vm₁ n1) (hk1 : n1 ≤ T.heap.size) (hlk : meth.locks = false) {v : Option Value} (hv : meth.sig.returnType = none → v = none) {Q : Option Value → Heap → List Loc → Prop} {k n : Nat} (hk : cells ≤ k) (hn : slots ≤ n) (hQ : Q v T.heap locs) (hC : CHr Z EL s.vm s.heap T.vm T.heap) {T0 : State}
    (hst : ∀ fs : List Frame, (∀ (f : JFrame) (acts : List Action), f.method = m → f.locked = none → f.entered = [] → (doReturn e (T.setTop f) acts v).1 = T.setFrames fs) → Steps p.tables e below T0 (T.setFrames fs)) : Runs p.tables e below (PhiH Z EL s Q k n) T0 := by
  obtain ⟨fs, hr, hrun, hended, hW⟩ := (wider X hk hn).leaveW hS hk1 hv hlk
  exact ⟨_, _, hst fs hr, hrun, hended, _, _, rfl, hQ, hC, hW⟩
end Laws
section Facts
variable {Z : State} {h h' : Heap} {a : Addr} {C n d : String} {v : Value} {bo : Bool} {ws : List Addr}
theorem Ins_keep (F : Ins Z h a C bo) (K : Keep h h' ws) : Ins Z h' a C bo := by
  obtain ⟨cell, cT, h1, h2, h3⟩ := F
  obtain ⟨c', e1, e2, e3, -⟩ := K.2.2 _ _ h1
  exact ⟨c', cT, e1, h2, by rw [e2, e3]; exact h3⟩
theorem narrow_ref {t : FieldType} {v : Value} (h : v.isRef = true) : narrow t v = v := by rcases ref_cases h with rfl | ⟨_, rfl⟩ <;> cases t <;> rfl
end Facts
end Jvm.OwnRuns
namespace Jvm.OwnRuns
open Jvm Sem ClassFile Op Lib Jvm.Stand Jvm.Free Jvm.LawKit Jvm.RoadKit
section Words
variable {args : Array Value} {s : State} {t : Term}
theorem val_int {k : Int32} (h : (Cond.eq t (.int k)).value args s none s [] = some true) : t.eval args s none [] s = some (.int k) := Cond.eq_int (Cond.before_iff.mpr h) rfl
theorem the_static {C n d K : String} (h : (Cond.exactly (.static C n d) K).value args s none s [] = some true) (h1 : (Cond.initialized C).before args s = true) (h2 : (Cond.laysStatic C n d).before args s = true) :
    ∃ a, (Term.static C n d).eval args s none [] s = some (.ref a) ∧ Sta s s.heap C n d (.ref a) ∧ Exa s s.heap a K := by
  obtain ⟨a, e⟩ := exa_v h
  exact ⟨a, e, Sta.start e (Or.inr ⟨h1, h2⟩), Exa.start e h⟩
theorem the_int {C n d : String} {a : Addr} {k : Int32} (e : t.eval args s none [] s = some (.ref a)) (h : (Cond.eq (.field t C n d) (.int k)).value args s none s [] = some true) : Fld s s.heap a C n d (.int k) :=
  Fld.start ((fld_at e).symm.trans (val_int h))
theorem the_ref {C n d K : String} {a : Addr} (e : t.eval args s none [] s = some (.ref a)) (h : (Cond.exactly (.field t C n d) K).value args s none s [] = some true) :
    ∃ b, (Term.field t C n d).eval args s none [] s = some (.ref b) ∧ Fld s s.heap a C n d (.ref b) ∧ Exa s s.heap b K := by
  obtain ⟨b, eb⟩ := exa_v h
  exact ⟨b, eb, Fld.start ((fld_at e).symm.trans eb), Exa.start eb h⟩
theorem the_arr {C n d : String} {ty : FieldType} {a : Addr} (e : t.eval args s none [] s = some (.ref a)) (h : (Cond.arrayOf (.field t C n d) ty).value args s none s [] = some true) :
    ∃ b cl, (Term.field t C n d).eval args s none [] s = some (.ref b) ∧ Fld s s.heap a C n d (.ref b) ∧ Arr s s.heap b cl ty := by
  obtain ⟨b, eb⟩ := arr_v h
  obtain ⟨cl, A⟩ := Arr.start eb h
  exact ⟨b, cl, eb, Fld.start ((fld_at e).symm.trans eb), A⟩
theorem the_len {b : Addr} {cl : Cell} {ty : FieldType} {z : Int32} (e : t.eval args s none [] s = some (.ref b)) (A : Arr s s.heap b cl ty) (h : (Cond.eq (.length t) (.int z)).value args s none s [] = some true) : cl.slots.size < 2 ^ 31 ∧ cl.slots.size.toInt32 = z := by
  have hv := val_int h
  obtain ⟨x, c', e1, e2, -⟩ := Term.length_spec hv
  cases e.symm.trans e1
  have e3 := A.fin (Vm.Alike.refl _)
  cases e2.symm.trans e3
  have h31 := SBG.length_lt e1 e2 hv
  exact ⟨h31, Value.int.inj (Option.some.inj ((len_f e e3 h31).symm.trans hv))⟩
theorem the_elem {b : Addr} {cl : Cell} {ty : FieldType} {j k : Int32} (e : t.eval args s none [] s = some (.ref b)) (A : Arr s s.heap b cl ty) (h : (Cond.eq (.elem t (.int j)) (.int k)).value args s none s [] = some true) : cl.slots[j.toNatClampNeg]? = some (.int k) :=
  (elem_in (val_int h) e rfl A.1).2
end Words
end Jvm.OwnRuns
namespace Jvm.OwnRuns
open Jvm Sem ClassFile Op Lib Jvm.Stand Jvm.Free Jvm.LawKit Jvm.RoadKit
theorem fld_one {Z : State} {h : Heap} {a b d : Addr} {C n t : String} (F : Fld Z h a C n t (.ref b)) (G : Fld Z h a C n t (.ref d)) : b = d := by
  obtain ⟨c1, _, _, _, f1, h1, h2, -, -, -, -, h7⟩ := F
  obtain ⟨c2, _, _, _, f2, g1, g2, -, -, -, -, g7⟩ := G
  cases h1.symm.trans g1; cases h2.symm.trans g2
  exact Value.ref.inj (Option.some.inj (h7.symm.trans g7))
theorem arv_len {Z : State} {h : Heap} {a : Addr} {k k' : ClassId} {ty ty' : FieldType} {z z' : Int32} {vs vs' : List Value} {d d' : Value} (F : Arv Z h a k ty z vs d) (G : Arv Z h a k' ty' z' vs' d') : z = z' := by
  obtain ⟨c1, A1, -, S1, M1, -⟩ := F
  obtain ⟨c2, A2, -, S2, M2, -⟩ := G
  cases A1.1.symm.trans A2.1
  rw [← len_of S1 M1, ← len_of S2 M2]
end Jvm.OwnRuns
namespace Jvm.Pilot.@@N@@
open Jvm Jvm.ClassFile Sem Op Lib Jvm.Free Jvm.Stand Jvm.LawKit Jvm.RoadKit Bundle Jvm.OwnRuns Jvm.Pilot.@@N@@.Jvm.D
def Q_rmLE0 (Z : State) (b : Addr) (d : Addr) (k1 k2 : ClassId) (h0 : Heap) (n0 : Nat) : Option Value → Heap → List Loc → Prop := (fun v h L => v = some (.int (1 : Int32)) ∧ Fr n0 L ∧ h = h0)
theorem pn_java_lang_StringLatin1 : plainName "java/lang/StringLatin1" = true := by first | (simp [plainName, overriddenIn]; done) | decide +kernel
theorem ef_jdk_43_method_13_RR (m : MethodId) (x0 : Addr) (x1 : Addr)  : entryFrame m #[(.ref x0), (.ref x1)] 3 = mkF m 0 #[.val (.ref x0), .val (.ref x1), .unset] [] := by first | (simp [entryFrame, mkF, argsToLocals, Value.category]; done) | rfl
theorem d_jdk_43_method_13_0 : decode jdk_43_method_13_code 0 = .ok (.aload_n 0, 1) := by decide +kernel
theorem d_jdk_43_method_13_1 : decode jdk_43_method_13_code 1 = .ok (.arraylength, 1) := by decide +kernel
theorem d_jdk_43_method_13_2 : decode jdk_43_method_13_code 2 = .ok (.aload_n 1, 1) := by decide +kernel
theorem d_jdk_43_method_13_3 : decode jdk_43_method_13_code 3 = .ok (.arraylength, 1) := by decide +kernel
theorem d_jdk_43_method_13_4 : decode jdk_43_method_13_code 4 = .ok (.if_icmp .ne 30, 3) := by decide +kernel
theorem d_jdk_43_method_13_7 : decode jdk_43_method_13_code 7 = .ok (.iconst 0, 1) := by decide +kernel
theorem d_jdk_43_method_13_8 : decode jdk_43_method_13_code 8 = .ok (.istore_n 2, 1) := by decide +kernel
theorem d_jdk_43_method_13_9 : decode jdk_43_method_13_code 9 = .ok (.iload_n 2, 1) := by decide +kernel
theorem d_jdk_43_method_13_10 : decode jdk_43_method_13_code 10 = .ok (.aload_n 0, 1) := by decide +kernel
theorem d_jdk_43_method_13_11 : decode jdk_43_method_13_code 11 = .ok (.arraylength, 1) := by decide +kernel
theorem d_jdk_43_method_13_12 : decode jdk_43_method_13_code 12 = .ok (.if_icmp .ge 20, 3) := by decide +kernel
theorem d_jdk_43_method_13_15 : decode jdk_43_method_13_code 15 = .ok (.aload_n 0, 1) := by decide +kernel
theorem d_jdk_43_method_13_16 : decode jdk_43_method_13_code 16 = .ok (.iload_n 2, 1) := by decide +kernel
theorem d_jdk_43_method_13_17 : decode jdk_43_method_13_code 17 = .ok (.baload, 1) := by decide +kernel
theorem d_jdk_43_method_13_18 : decode jdk_43_method_13_code 18 = .ok (.aload_n 1, 1) := by decide +kernel
theorem d_jdk_43_method_13_19 : decode jdk_43_method_13_code 19 = .ok (.iload_n 2, 1) := by decide +kernel
theorem d_jdk_43_method_13_20 : decode jdk_43_method_13_code 20 = .ok (.baload, 1) := by decide +kernel
theorem d_jdk_43_method_13_21 : decode jdk_43_method_13_code 21 = .ok (.if_icmp .eq 5, 3) := by decide +kernel
theorem d_jdk_43_method_13_26 : decode jdk_43_method_13_code 26 = .ok (.iinc 2 1, 3) := by decide +kernel
theorem d_jdk_43_method_13_29 : decode jdk_43_method_13_code 29 = .ok (.goto (-20), 3) := by decide +kernel
theorem d_jdk_43_method_13_32 : decode jdk_43_method_13_code 32 = .ok (.iconst 1, 1) := by decide +kernel
theorem d_jdk_43_method_13_33 : decode jdk_43_method_13_code 33 = .ok (.ireturn, 1) := by decide +kernel
set_option maxRecDepth 65536 in
set_option maxHeartbeats 40000000 in
theorem rmLE0 (l : Launch) (Z : State) (a0 : Array Value) (hw : ∀ d ∈ tables_1, d.before a0 Z = true) (ws : List Jvm.Cond) (b : Addr) (d : Addr) (k1 k2 : ClassId) (h0 : Heap) (n0 : Nat) (Z0 : n0 ≤ h0.size) (V1 : Arv Z h0 b k1 .byte (7 : Int32) [(.int (80 : Int32)), (.int (114 : Int32)), (.int (101 : Int32)), (.int (80 : Int32)), (.int (97 : Int32)), (.int (105 : Int32)), (.int (100 : Int32))] (.int (0 : Int32))) (V2 : Arv Z h0 d k2 .byte (7 : Int32) [(.int (80 : Int32)), (.int (114 : Int32)), (.int (101 : Int32)), (.int (80 : Int32)), (.int (97 : Int32)), (.int (105 : Int32)), (.int (100 : Int32))] (.int (0 : Int32))) :
    MetFree l (⟨"java/lang/StringLatin1", "equals", "([B[B)Z"⟩ : MethodName) (head1 (Jvm.Cond.code (⟨"java/lang/StringLatin1", "equals", "([B[B)Z"⟩ : MethodName) jdk_43_method_13_code 3 (some .boolean) :: ws) ({ frames := 0, cells := 0, slots := 0, locals := 0 } : Room)) (fun ar_ U => ar_ = #[(.ref b), (.ref d)] ∧ Z.Warmed39 U.vm ∧ U.heap = h0) (fun _ _ _ _ _ => True) (fun _ U o U' => Phi U (Q_rmLE0 Z b d k1 k2 h0 n0) ({ frames := 0, cells := 0, slots := 0, locals := 0 } : Room).cells ({ frames := 0, cells := 0, slots := 0, locals := 0 } : Room).slots o U') := by
  refine MetFree.of_bodySF (plainFor_of_name pn_java_lang_StringLatin1) hisR ?_
  intro p e s m args below meth c s₁ Bd hml0 hP hK
  obtain ⟨rfl, hZ, hh⟩ := hP
  have hx := Bd.exec
  have hby := Bd.bytes
  have hlk := Bd.notSynchronized
  have hml : c.maxLocals = 3 := hml0
  have hown : s.vm.findClass "java/lang/StringLatin1" = some m.cls := findClass_of_methodNamed Bd.named
  have hown0 := hown
  have hnm := (name_of_methodNamed Bd.named Bd.method).1
  have hret := Bd.returns
  have X0 : Stand p l e ({ frames := 0, cells := 0, slots := 0, locals := 0 } : Room) s m #[(.ref b), (.ref d)] below meth c s₁ [] 0 0 := Stand.of_body Bd
  have e0 : s₁.heap = h0 := by rw [← hh, Bd.state]; rfl
  have N0 := Fr.nil n0
  have sz := Z0
  have K := Keep.refl h0 []
  show Runs p.tables e below (Phi s (Q_rmLE0 Z b d k1 k2 h0 n0) ({ frames := 0, cells := 0, slots := 0, locals := 0 } : Room).cells ({ frames := 0, cells := 0, slots := 0, locals := 0 } : Room).slots) _
  refine Runs.st (fun t' k' => castTop (ef_jdk_43_method_13_RR m b d ) k') ?_
  show Runs p.tables e below _ (s₁.setTop (mkF m 0 #[.val (.ref b), .val (.ref d), .unset] []))
  refine Runs.st (fun t' k' => XS.aloadN X0.here hx rfl (hb hby d_jdk_43_method_13_0) rfl rfl k') ?_
  show Runs p.tables e below _ (s₁.setTop (mkF m 1 #[.val (.ref b), .val (.ref d), .unset] [(.ref b)]))
  obtain ⟨cl1_, Ar1_, -, S1_, M1_, -, -⟩ := id V1
  refine Runs.st (X0.arraylength hx (by rw [e0]; exact Ar1_.1) (State.isArrayOf_alike hZ.alike Ar1_.2.1) (g := (mkF m 1 #[.val (.ref b), .val (.ref d), .unset] [(.ref b)])) rfl rfl (hb hby d_jdk_43_method_13_1)) ?_
  rw [len_of S1_ M1_]
  show Runs p.tables e below _ (s₁.setTop (mkF m 2 #[.val (.ref b), .val (.ref d), .unset] [(.int (7 : Int32))]))
  refine Runs.st (fun t' k' => XS.aloadN X0.here hx rfl (hb hby d_jdk_43_method_13_2) rfl rfl k') ?_
  show Runs p.tables e below _ (s₁.setTop (mkF m 3 #[.val (.ref b), .val (.ref d), .unset] [(.ref d), (.int (7 : Int32))]))
  obtain ⟨cl2_, Ar2_, -, S2_, M2_, -, -⟩ := id V2
  refine Runs.st (X0.arraylength hx (by rw [e0]; exact Ar2_.1) (State.isArrayOf_alike hZ.alike Ar2_.2.1) (g := (mkF m 3 #[.val (.ref b), .val (.ref d), .unset] [(.ref d), (.int (7 : Int32))])) rfl rfl (hb hby d_jdk_43_method_13_3)) ?_
  rw [len_of S2_ M2_]
  show Runs p.tables e below _ (s₁.setTop (mkF m 4 #[.val (.ref b), .val (.ref d), .unset] [(.int (7 : Int32)), (.int (7 : Int32))]))
  refine Runs.st (fun t' k' => XS.icmpNo X0.here hx rfl (hb hby d_jdk_43_method_13_4) rfl (teq rfl).2 k') ?_
  show Runs p.tables e below _ (s₁.setTop (mkF m 7 #[.val (.ref b), .val (.ref d), .unset] []))
  refine Runs.st (fun t' k' => XS.iconst X0.here hx rfl (hb hby d_jdk_43_method_13_7) k') ?_
  show Runs p.tables e below _ (s₁.setTop (mkF m 8 #[.val (.ref b), .val (.ref d), .unset] [(.int (0 : Int32))]))
  refine Runs.st (fun t' k' => XS.istoreN X0.here hx rfl (hb hby d_jdk_43_method_13_8) rfl (l' := #[.val (.ref b), .val (.ref d), .val (.int (0 : Int32))]) rfl k') ?_
  show Runs p.tables e below _ (s₁.setTop (mkF m 9 #[.val (.ref b), .val (.ref d), .val (.int (0 : Int32))] []))
  refine Runs.st (fun t' k' => XS.iloadN X0.here hx rfl (hb hby d_jdk_43_method_13_9) rfl k') ?_
  show Runs p.tables e below _ (s₁.setTop (mkF m 10 #[.val (.ref b), .val (.ref d), .val (.int (0 : Int32))] [(.int (0 : Int32))]))
  refine Runs.st (fun t' k' => XS.aloadN X0.here hx rfl (hb hby d_jdk_43_method_13_10) rfl rfl k') ?_
  show Runs p.tables e below _ (s₁.setTop (mkF m 11 #[.val (.ref b), .val (.ref d), .val (.int (0 : Int32))] [(.ref b), (.int (0 : Int32))]))
  obtain ⟨cl3_, Ar3_, -, S3_, M3_, -, -⟩ := id V1
  refine Runs.st (X0.arraylength hx (by rw [e0]; exact Ar3_.1) (State.isArrayOf_alike hZ.alike Ar3_.2.1) (g := (mkF m 11 #[.val (.ref b), .val (.ref d), .val (.int (0 : Int32))] [(.ref b), (.int (0 : Int32))])) rfl rfl (hb hby d_jdk_43_method_13_11)) ?_
  rw [len_of S3_ M3_]
  show Runs p.tables e below _ (s₁.setTop (mkF m 12 #[.val (.ref b), .val (.ref d), .val (.int (0 : Int32))] [(.int (7 : Int32)), (.int (0 : Int32))]))
  refine Runs.st (fun t' k' => XS.icmpNo X0.here hx rfl (hb hby d_jdk_43_method_13_12) rfl (tlt (by decide)).2.1 k') ?_
  show Runs p.tables e below _ (s₁.setTop (mkF m 15 #[.val (.ref b), .val (.ref d), .val (.int (0 : Int32))] []))
  refine Runs.st (fun t' k' => XS.aloadN X0.here hx rfl (hb hby d_jdk_43_method_13_15) rfl rfl k') ?_
  show Runs p.tables e below _ (s₁.setTop (mkF m 16 #[.val (.ref b), .val (.ref d), .val (.int (0 : Int32))] [(.ref b)]))
  refine Runs.st (fun t' k' => XS.iloadN X0.here hx rfl (hb hby d_jdk_43_method_13_16) rfl k') ?_
  show Runs p.tables e below _ (s₁.setTop (mkF m 17 #[.val (.ref b), .val (.ref d), .val (.int (0 : Int32))] [(.int (0 : Int32)), (.ref b)]))
  obtain ⟨cl4_, Ar4_, -, S4_, M4_, Ha4_, -⟩ := id V1
  have hin4_ : ¬ ((0 : Int32) < 0 ∨ cl4_.slots.size ≤ ((0 : Int32)).toNatClampNeg) := inb_of S4_ ⟨by decide, by decide⟩
  refine Runs.st (X0.baloadBytes hx (j := (0 : Int32)) (v := (.int (80 : Int32))) (by rw [e0]; exact Ar4_.1) (State.isArrayOf_alike hZ.alike Ar4_.2.1) Ar4_.2.2 hin4_ (Ha4_.at hin4_ (by first | rfl | decide)) (g := (mkF m 17 #[.val (.ref b), .val (.ref d), .val (.int (0 : Int32))] [(.int (0 : Int32)), (.ref b)])) rfl rfl (hb hby d_jdk_43_method_13_17)) ?_
  show Runs p.tables e below _ (s₁.setTop (mkF m 18 #[.val (.ref b), .val (.ref d), .val (.int (0 : Int32))] [(.int (80 : Int32))]))
  refine Runs.st (fun t' k' => XS.aloadN X0.here hx rfl (hb hby d_jdk_43_method_13_18) rfl rfl k') ?_
  show Runs p.tables e below _ (s₁.setTop (mkF m 19 #[.val (.ref b), .val (.ref d), .val (.int (0 : Int32))] [(.ref d), (.int (80 : Int32))]))
  refine Runs.st (fun t' k' => XS.iloadN X0.here hx rfl (hb hby d_jdk_43_method_13_19) rfl k') ?_
  show Runs p.tables e below _ (s₁.setTop (mkF m 20 #[.val (.ref b), .val (.ref d), .val (.int (0 : Int32))] [(.int (0 : Int32)), (.ref d), (.int (80 : Int32))]))
  obtain ⟨cl5_, Ar5_, -, S5_, M5_, Ha5_, -⟩ := id V2
  have hin5_ : ¬ ((0 : Int32) < 0 ∨ cl5_.slots.size ≤ ((0 : Int32)).toNatClampNeg) := inb_of S5_ ⟨by decide, by decide⟩
  refine Runs.st (X0.baloadBytes hx (j := (0 : Int32)) (v := (.int (80 : Int32))) (by rw [e0]; exact Ar5_.1) (State.isArrayOf_alike hZ.alike Ar5_.2.1) Ar5_.2.2 hin5_ (Ha5_.at hin5_ (by first | rfl | decide)) (g := (mkF m 20 #[.val (.ref b), .val (.ref d), .val (.int (0 : Int32))] [(.int (0 : Int32)), (.ref d), (.int (80 : Int32))])) rfl rfl (hb hby d_jdk_43_method_13_20)) ?_
  show Runs p.tables e below _ (s₁.setTop (mkF m 21 #[.val (.ref b), .val (.ref d), .val (.int (0 : Int32))] [(.int (80 : Int32)), (.int (80 : Int32))]))
  refine Runs.st (fun t' k' => XS.icmpYes X0.here hx rfl (pc0 := 21) (pc' := 26) rfl (hb hby d_jdk_43_method_13_21) rfl (teq rfl).1 (by decide) (by decide) k') ?_
  show Runs p.tables e below _ (s₁.setTop (mkF m 26 #[.val (.ref b), .val (.ref d), .val (.int (0 : Int32))] []))
  refine Runs.st (fun t' k' => XS.iinc X0.here hx rfl (hb hby d_jdk_43_method_13_26) rfl (l' := #[.val (.ref b), .val (.ref d), .val (.int ((0 : Int32) + (1 : Int32)))]) rfl k') ?_
  show Runs p.tables e below _ (s₁.setTop (mkF m 29 #[.val (.ref b), .val (.ref d), .val (.int ((0 : Int32) + (1 : Int32)))] []))
  rw [show ((0 : Int32) + (1 : Int32)) = (1 : Int32) from rfl]
  show Runs p.tables e below _ (s₁.setTop (mkF m 29 #[.val (.ref b), .val (.ref d), .val (.int (1 : Int32))] []))
  refine Runs.st (fun t' k' => XS.goto X0.here hx rfl (pc0 := 29) (pc' := 9) rfl (hb hby d_jdk_43_method_13_29) (by decide) (by decide) k') ?_
  show Runs p.tables e below _ (s₁.setTop (mkF m 9 #[.val (.ref b), .val (.ref d), .val (.int (1 : Int32))] []))
  refine Runs.st (fun t' k' => XS.iloadN X0.here hx rfl (hb hby d_jdk_43_method_13_9) rfl k') ?_
  show Runs p.tables e below _ (s₁.setTop (mkF m 10 #[.val (.ref b), .val (.ref d), .val (.int (1 : Int32))] [(.int (1 : Int32))]))
  refine Runs.st (fun t' k' => XS.aloadN X0.here hx rfl (hb hby d_jdk_43_method_13_10) rfl rfl k') ?_
  show Runs p.tables e below _ (s₁.setTop (mkF m 11 #[.val (.ref b), .val (.ref d), .val (.int (1 : Int32))] [(.ref b), (.int (1 : Int32))]))
  obtain ⟨cl6_, Ar6_, -, S6_, M6_, -, -⟩ := id V1
  refine Runs.st (X0.arraylength hx (by rw [e0]; exact Ar6_.1) (State.isArrayOf_alike hZ.alike Ar6_.2.1) (g := (mkF m 11 #[.val (.ref b), .val (.ref d), .val (.int (1 : Int32))] [(.ref b), (.int (1 : Int32))])) rfl rfl (hb hby d_jdk_43_method_13_11)) ?_
  rw [len_of S6_ M6_]
  show Runs p.tables e below _ (s₁.setTop (mkF m 12 #[.val (.ref b), .val (.ref d), .val (.int (1 : Int32))] [(.int (7 : Int32)), (.int (1 : Int32))]))
  refine Runs.st (fun t' k' => XS.icmpNo X0.here hx rfl (hb hby d_jdk_43_method_13_12) rfl (tlt (by decide)).2.1 k') ?_
  show Runs p.tables e below _ (s₁.setTop (mkF m 15 #[.val (.ref b), .val (.ref d), .val (.int (1 : Int32))] []))
  refine Runs.st (fun t' k' => XS.aloadN X0.here hx rfl (hb hby d_jdk_43_method_13_15) rfl rfl k') ?_
  show Runs p.tables e below _ (s₁.setTop (mkF m 16 #[.val (.ref b), .val (.ref d), .val (.int (1 : Int32))] [(.ref b)]))
  refine Runs.st (fun t' k' => XS.iloadN X0.here hx rfl (hb hby d_jdk_43_method_13_16) rfl k') ?_
  show Runs p.tables e below _ (s₁.setTop (mkF m 17 #[.val (.ref b), .val (.ref d), .val (.int (1 : Int32))] [(.int (1 : Int32)), (.ref b)]))
  obtain ⟨cl7_, Ar7_, -, S7_, M7_, Ha7_, -⟩ := id V1
  have hin7_ : ¬ ((1 : Int32) < 0 ∨ cl7_.slots.size ≤ ((1 : Int32)).toNatClampNeg) := inb_of S7_ ⟨by decide, by decide⟩
  refine Runs.st (X0.baloadBytes hx (j := (1 : Int32)) (v := (.int (114 : Int32))) (by rw [e0]; exact Ar7_.1) (State.isArrayOf_alike hZ.alike Ar7_.2.1) Ar7_.2.2 hin7_ (Ha7_.at hin7_ (by first | rfl | decide)) (g := (mkF m 17 #[.val (.ref b), .val (.ref d), .val (.int (1 : Int32))] [(.int (1 : Int32)), (.ref b)])) rfl rfl (hb hby d_jdk_43_method_13_17)) ?_
  show Runs p.tables e below _ (s₁.setTop (mkF m 18 #[.val (.ref b), .val (.ref d), .val (.int (1 : Int32))] [(.int (114 : Int32))]))
  refine Runs.st (fun t' k' => XS.aloadN X0.here hx rfl (hb hby d_jdk_43_method_13_18) rfl rfl k') ?_
  show Runs p.tables e below _ (s₁.setTop (mkF m 19 #[.val (.ref b), .val (.ref d), .val (.int (1 : Int32))] [(.ref d), (.int (114 : Int32))]))
  refine Runs.st (fun t' k' => XS.iloadN X0.here hx rfl (hb hby d_jdk_43_method_13_19) rfl k') ?_
  show Runs p.tables e below _ (s₁.setTop (mkF m 20 #[.val (.ref b), .val (.ref d), .val (.int (1 : Int32))] [(.int (1 : Int32)), (.ref d), (.int (114 : Int32))]))
  obtain ⟨cl8_, Ar8_, -, S8_, M8_, Ha8_, -⟩ := id V2
  have hin8_ : ¬ ((1 : Int32) < 0 ∨ cl8_.slots.size ≤ ((1 : Int32)).toNatClampNeg) := inb_of S8_ ⟨by decide, by decide⟩
  refine Runs.st (X0.baloadBytes hx (j := (1 : Int32)) (v := (.int (114 : Int32))) (by rw [e0]; exact Ar8_.1) (State.isArrayOf_alike hZ.alike Ar8_.2.1) Ar8_.2.2 hin8_ (Ha8_.at hin8_ (by first | rfl | decide)) (g := (mkF m 20 #[.val (.ref b), .val (.ref d), .val (.int (1 : Int32))] [(.int (1 : Int32)), (.ref d), (.int (114 : Int32))])) rfl rfl (hb hby d_jdk_43_method_13_20)) ?_
  show Runs p.tables e below _ (s₁.setTop (mkF m 21 #[.val (.ref b), .val (.ref d), .val (.int (1 : Int32))] [(.int (114 : Int32)), (.int (114 : Int32))]))
  refine Runs.st (fun t' k' => XS.icmpYes X0.here hx rfl (pc0 := 21) (pc' := 26) rfl (hb hby d_jdk_43_method_13_21) rfl (teq rfl).1 (by decide) (by decide) k') ?_
  show Runs p.tables e below _ (s₁.setTop (mkF m 26 #[.val (.ref b), .val (.ref d), .val (.int (1 : Int32))] []))
  refine Runs.st (fun t' k' => XS.iinc X0.here hx rfl (hb hby d_jdk_43_method_13_26) rfl (l' := #[.val (.ref b), .val (.ref d), .val (.int ((1 : Int32) + (1 : Int32)))]) rfl k') ?_
  show Runs p.tables e below _ (s₁.setTop (mkF m 29 #[.val (.ref b), .val (.ref d), .val (.int ((1 : Int32) + (1 : Int32)))] []))
  rw [show ((1 : Int32) + (1 : Int32)) = (2 : Int32) from rfl]
  show Runs p.tables e below _ (s₁.setTop (mkF m 29 #[.val (.ref b), .val (.ref d), .val (.int (2 : Int32))] []))
  refine Runs.st (fun t' k' => XS.goto X0.here hx rfl (pc0 := 29) (pc' := 9) rfl (hb hby d_jdk_43_method_13_29) (by decide) (by decide) k') ?_
  show Runs p.tables e below _ (s₁.setTop (mkF m 9 #[.val (.ref b), .val (.ref d), .val (.int (2 : Int32))] []))
  refine Runs.st (fun t' k' => XS.iloadN X0.here hx rfl (hb hby d_jdk_43_method_13_9) rfl k') ?_
  show Runs p.tables e below _ (s₁.setTop (mkF m 10 #[.val (.ref b), .val (.ref d), .val (.int (2 : Int32))] [(.int (2 : Int32))]))
  refine Runs.st (fun t' k' => XS.aloadN X0.here hx rfl (hb hby d_jdk_43_method_13_10) rfl rfl k') ?_
  show Runs p.tables e below _ (s₁.setTop (mkF m 11 #[.val (.ref b), .val (.ref d), .val (.int (2 : Int32))] [(.ref b), (.int (2 : Int32))]))
  obtain ⟨cl9_, Ar9_, -, S9_, M9_, -, -⟩ := id V1
  refine Runs.st (X0.arraylength hx (by rw [e0]; exact Ar9_.1) (State.isArrayOf_alike hZ.alike Ar9_.2.1) (g := (mkF m 11 #[.val (.ref b), .val (.ref d), .val (.int (2 : Int32))] [(.ref b), (.int (2 : Int32))])) rfl rfl (hb hby d_jdk_43_method_13_11)) ?_
  rw [len_of S9_ M9_]
  show Runs p.tables e below _ (s₁.setTop (mkF m 12 #[.val (.ref b), .val (.ref d), .val (.int (2 : Int32))] [(.int (7 : Int32)), (.int (2 : Int32))]))
  refine Runs.st (fun t' k' => XS.icmpNo X0.here hx rfl (hb hby d_jdk_43_method_13_12) rfl (tlt (by decide)).2.1 k') ?_
  show Runs p.tables e below _ (s₁.setTop (mkF m 15 #[.val (.ref b), .val (.ref d), .val (.int (2 : Int32))] []))
  refine Runs.st (fun t' k' => XS.aloadN X0.here hx rfl (hb hby d_jdk_43_method_13_15) rfl rfl k') ?_
  show Runs p.tables e below _ (s₁.setTop (mkF m 16 #[.val (.ref b), .val (.ref d), .val (.int (2 : Int32))] [(.ref b)]))
  refine Runs.st (fun t' k' => XS.iloadN X0.here hx rfl (hb hby d_jdk_43_method_13_16) rfl k') ?_
  show Runs p.tables e below _ (s₁.setTop (mkF m 17 #[.val (.ref b), .val (.ref d), .val (.int (2 : Int32))] [(.int (2 : Int32)), (.ref b)]))
  obtain ⟨cl10_, Ar10_, -, S10_, M10_, Ha10_, -⟩ := id V1
  have hin10_ : ¬ ((2 : Int32) < 0 ∨ cl10_.slots.size ≤ ((2 : Int32)).toNatClampNeg) := inb_of S10_ ⟨by decide, by decide⟩
  refine Runs.st (X0.baloadBytes hx (j := (2 : Int32)) (v := (.int (101 : Int32))) (by rw [e0]; exact Ar10_.1) (State.isArrayOf_alike hZ.alike Ar10_.2.1) Ar10_.2.2 hin10_ (Ha10_.at hin10_ (by first | rfl | decide)) (g := (mkF m 17 #[.val (.ref b), .val (.ref d), .val (.int (2 : Int32))] [(.int (2 : Int32)), (.ref b)])) rfl rfl (hb hby d_jdk_43_method_13_17)) ?_
  show Runs p.tables e below _ (s₁.setTop (mkF m 18 #[.val (.ref b), .val (.ref d), .val (.int (2 : Int32))] [(.int (101 : Int32))]))
  refine Runs.st (fun t' k' => XS.aloadN X0.here hx rfl (hb hby d_jdk_43_method_13_18) rfl rfl k') ?_
  show Runs p.tables e below _ (s₁.setTop (mkF m 19 #[.val (.ref b), .val (.ref d), .val (.int (2 : Int32))] [(.ref d), (.int (101 : Int32))]))
  refine Runs.st (fun t' k' => XS.iloadN X0.here hx rfl (hb hby d_jdk_43_method_13_19) rfl k') ?_
  show Runs p.tables e below _ (s₁.setTop (mkF m 20 #[.val (.ref b), .val (.ref d), .val (.int (2 : Int32))] [(.int (2 : Int32)), (.ref d), (.int (101 : Int32))]))
  obtain ⟨cl11_, Ar11_, -, S11_, M11_, Ha11_, -⟩ := id V2
  have hin11_ : ¬ ((2 : Int32) < 0 ∨ cl11_.slots.size ≤ ((2 : Int32)).toNatClampNeg) := inb_of S11_ ⟨by decide, by decide⟩
  refine Runs.st (X0.baloadBytes hx (j := (2 : Int32)) (v := (.int (101 : Int32))) (by rw [e0]; exact Ar11_.1) (State.isArrayOf_alike hZ.alike Ar11_.2.1) Ar11_.2.2 hin11_ (Ha11_.at hin11_ (by first | rfl | decide)) (g := (mkF m 20 #[.val (.ref b), .val (.ref d), .val (.int (2 : Int32))] [(.int (2 : Int32)), (.ref d), (.int (101 : Int32))])) rfl rfl (hb hby d_jdk_43_method_13_20)) ?_
  show Runs p.tables e below _ (s₁.setTop (mkF m 21 #[.val (.ref b), .val (.ref d), .val (.int (2 : Int32))] [(.int (101 : Int32)), (.int (101 : Int32))]))
  refine Runs.st (fun t' k' => XS.icmpYes X0.here hx rfl (pc0 := 21) (pc' := 26) rfl (hb hby d_jdk_43_method_13_21) rfl (teq rfl).1 (by decide) (by decide) k') ?_
  show Runs p.tables e below _ (s₁.setTop (mkF m 26 #[.val (.ref b), .val (.ref d), .val (.int (2 : Int32))] []))
  refine Runs.st (fun t' k' => XS.iinc X0.here hx rfl (hb hby d_jdk_43_method_13_26) rfl (l' := #[.val (.ref b), .val (.ref d), .val (.int ((2 : Int32) + (1 : Int32)))]) rfl k') ?_
  show Runs p.tables e below _ (s₁.setTop (mkF m 29 #[.val (.ref b), .val (.ref d), .val (.int ((2 : Int32) + (1 : Int32)))] []))
  rw [show ((2 : Int32) + (1 : Int32)) = (3 : Int32) from rfl]
  show Runs p.tables e below _ (s₁.setTop (mkF m 29 #[.val (.ref b), .val (.ref d), .val (.int (3 : Int32))] []))
  refine Runs.st (fun t' k' => XS.goto X0.here hx rfl (pc0 := 29) (pc' := 9) rfl (hb hby d_jdk_43_method_13_29) (by decide) (by decide) k') ?_
  show Runs p.tables e below _ (s₁.setTop (mkF m 9 #[.val (.ref b), .val (.ref d), .val (.int (3 : Int32))] []))
  refine Runs.st (fun t' k' => XS.iloadN X0.here hx rfl (hb hby d_jdk_43_method_13_9) rfl k') ?_
  show Runs p.tables e below _ (s₁.setTop (mkF m 10 #[.val (.ref b), .val (.ref d), .val (.int (3 : Int32))] [(.int (3 : Int32))]))
  refine Runs.st (fun t' k' => XS.aloadN X0.here hx rfl (hb hby d_jdk_43_method_13_10) rfl rfl k') ?_
  show Runs p.tables e below _ (s₁.setTop (mkF m 11 #[.val (.ref b), .val (.ref d), .val (.int (3 : Int32))] [(.ref b), (.int (3 : Int32))]))
  obtain ⟨cl12_, Ar12_, -, S12_, M12_, -, -⟩ := id V1
  refine Runs.st (X0.arraylength hx (by rw [e0]; exact Ar12_.1) (State.isArrayOf_alike hZ.alike Ar12_.2.1) (g := (mkF m 11 #[.val (.ref b), .val (.ref d), .val (.int (3 : Int32))] [(.ref b), (.int (3 : Int32))])) rfl rfl (hb hby d_jdk_43_method_13_11)) ?_
  rw [len_of S12_ M12_]
  show Runs p.tables e below _ (s₁.setTop (mkF m 12 #[.val (.ref b), .val (.ref d), .val (.int (3 : Int32))] [(.int (7 : Int32)), (.int (3 : Int32))]))
  refine Runs.st (fun t' k' => XS.icmpNo X0.here hx rfl (hb hby d_jdk_43_method_13_12) rfl (tlt (by decide)).2.1 k') ?_
  show Runs p.tables e below _ (s₁.setTop (mkF m 15 #[.val (.ref b), .val (.ref d), .val (.int (3 : Int32))] []))
  refine Runs.st (fun t' k' => XS.aloadN X0.here hx rfl (hb hby d_jdk_43_method_13_15) rfl rfl k') ?_
  show Runs p.tables e below _ (s₁.setTop (mkF m 16 #[.val (.ref b), .val (.ref d), .val (.int (3 : Int32))] [(.ref b)]))
  refine Runs.st (fun t' k' => XS.iloadN X0.here hx rfl (hb hby d_jdk_43_method_13_16) rfl k') ?_
  show Runs p.tables e below _ (s₁.setTop (mkF m 17 #[.val (.ref b), .val (.ref d), .val (.int (3 : Int32))] [(.int (3 : Int32)), (.ref b)]))
  obtain ⟨cl13_, Ar13_, -, S13_, M13_, Ha13_, -⟩ := id V1
  have hin13_ : ¬ ((3 : Int32) < 0 ∨ cl13_.slots.size ≤ ((3 : Int32)).toNatClampNeg) := inb_of S13_ ⟨by decide, by decide⟩
  refine Runs.st (X0.baloadBytes hx (j := (3 : Int32)) (v := (.int (80 : Int32))) (by rw [e0]; exact Ar13_.1) (State.isArrayOf_alike hZ.alike Ar13_.2.1) Ar13_.2.2 hin13_ (Ha13_.at hin13_ (by first | rfl | decide)) (g := (mkF m 17 #[.val (.ref b), .val (.ref d), .val (.int (3 : Int32))] [(.int (3 : Int32)), (.ref b)])) rfl rfl (hb hby d_jdk_43_method_13_17)) ?_
  show Runs p.tables e below _ (s₁.setTop (mkF m 18 #[.val (.ref b), .val (.ref d), .val (.int (3 : Int32))] [(.int (80 : Int32))]))
  refine Runs.st (fun t' k' => XS.aloadN X0.here hx rfl (hb hby d_jdk_43_method_13_18) rfl rfl k') ?_
  show Runs p.tables e below _ (s₁.setTop (mkF m 19 #[.val (.ref b), .val (.ref d), .val (.int (3 : Int32))] [(.ref d), (.int (80 : Int32))]))
  refine Runs.st (fun t' k' => XS.iloadN X0.here hx rfl (hb hby d_jdk_43_method_13_19) rfl k') ?_
  show Runs p.tables e below _ (s₁.setTop (mkF m 20 #[.val (.ref b), .val (.ref d), .val (.int (3 : Int32))] [(.int (3 : Int32)), (.ref d), (.int (80 : Int32))]))
  obtain ⟨cl14_, Ar14_, -, S14_, M14_, Ha14_, -⟩ := id V2
  have hin14_ : ¬ ((3 : Int32) < 0 ∨ cl14_.slots.size ≤ ((3 : Int32)).toNatClampNeg) := inb_of S14_ ⟨by decide, by decide⟩
  refine Runs.st (X0.baloadBytes hx (j := (3 : Int32)) (v := (.int (80 : Int32))) (by rw [e0]; exact Ar14_.1) (State.isArrayOf_alike hZ.alike Ar14_.2.1) Ar14_.2.2 hin14_ (Ha14_.at hin14_ (by first | rfl | decide)) (g := (mkF m 20 #[.val (.ref b), .val (.ref d), .val (.int (3 : Int32))] [(.int (3 : Int32)), (.ref d), (.int (80 : Int32))])) rfl rfl (hb hby d_jdk_43_method_13_20)) ?_
  show Runs p.tables e below _ (s₁.setTop (mkF m 21 #[.val (.ref b), .val (.ref d), .val (.int (3 : Int32))] [(.int (80 : Int32)), (.int (80 : Int32))]))
  refine Runs.st (fun t' k' => XS.icmpYes X0.here hx rfl (pc0 := 21) (pc' := 26) rfl (hb hby d_jdk_43_method_13_21) rfl (teq rfl).1 (by decide) (by decide) k') ?_
  show Runs p.tables e below _ (s₁.setTop (mkF m 26 #[.val (.ref b), .val (.ref d), .val (.int (3 : Int32))] []))
  refine Runs.st (fun t' k' => XS.iinc X0.here hx rfl (hb hby d_jdk_43_method_13_26) rfl (l' := #[.val (.ref b), .val (.ref d), .val (.int ((3 : Int32) + (1 : Int32)))]) rfl k') ?_
  show Runs p.tables e below _ (s₁.setTop (mkF m 29 #[.val (.ref b), .val (.ref d), .val (.int ((3 : Int32) + (1 : Int32)))] []))
  rw [show ((3 : Int32) + (1 : Int32)) = (4 : Int32) from rfl]
  show Runs p.tables e below _ (s₁.setTop (mkF m 29 #[.val (.ref b), .val (.ref d), .val (.int (4 : Int32))] []))
  refine Runs.st (fun t' k' => XS.goto X0.here hx rfl (pc0 := 29) (pc' := 9) rfl (hb hby d_jdk_43_method_13_29) (by decide) (by decide) k') ?_
  show Runs p.tables e below _ (s₁.setTop (mkF m 9 #[.val (.ref b), .val (.ref d), .val (.int (4 : Int32))] []))
  refine Runs.st (fun t' k' => XS.iloadN X0.here hx rfl (hb hby d_jdk_43_method_13_9) rfl k') ?_
  show Runs p.tables e below _ (s₁.setTop (mkF m 10 #[.val (.ref b), .val (.ref d), .val (.int (4 : Int32))] [(.int (4 : Int32))]))
  refine Runs.st (fun t' k' => XS.aloadN X0.here hx rfl (hb hby d_jdk_43_method_13_10) rfl rfl k') ?_
  show Runs p.tables e below _ (s₁.setTop (mkF m 11 #[.val (.ref b), .val (.ref d), .val (.int (4 : Int32))] [(.ref b), (.int (4 : Int32))]))
  obtain ⟨cl15_, Ar15_, -, S15_, M15_, -, -⟩ := id V1
  refine Runs.st (X0.arraylength hx (by rw [e0]; exact Ar15_.1) (State.isArrayOf_alike hZ.alike Ar15_.2.1) (g := (mkF m 11 #[.val (.ref b), .val (.ref d), .val (.int (4 : Int32))] [(.ref b), (.int (4 : Int32))])) rfl rfl (hb hby d_jdk_43_method_13_11)) ?_
  rw [len_of S15_ M15_]
  show Runs p.tables e below _ (s₁.setTop (mkF m 12 #[.val (.ref b), .val (.ref d), .val (.int (4 : Int32))] [(.int (7 : Int32)), (.int (4 : Int32))]))
  refine Runs.st (fun t' k' => XS.icmpNo X0.here hx rfl (hb hby d_jdk_43_method_13_12) rfl (tlt (by decide)).2.1 k') ?_
  show Runs p.tables e below _ (s₁.setTop (mkF m 15 #[.val (.ref b), .val (.ref d), .val (.int (4 : Int32))] []))
  refine Runs.st (fun t' k' => XS.aloadN X0.here hx rfl (hb hby d_jdk_43_method_13_15) rfl rfl k') ?_
  show Runs p.tables e below _ (s₁.setTop (mkF m 16 #[.val (.ref b), .val (.ref d), .val (.int (4 : Int32))] [(.ref b)]))
  refine Runs.st (fun t' k' => XS.iloadN X0.here hx rfl (hb hby d_jdk_43_method_13_16) rfl k') ?_
  show Runs p.tables e below _ (s₁.setTop (mkF m 17 #[.val (.ref b), .val (.ref d), .val (.int (4 : Int32))] [(.int (4 : Int32)), (.ref b)]))
  obtain ⟨cl16_, Ar16_, -, S16_, M16_, Ha16_, -⟩ := id V1
  have hin16_ : ¬ ((4 : Int32) < 0 ∨ cl16_.slots.size ≤ ((4 : Int32)).toNatClampNeg) := inb_of S16_ ⟨by decide, by decide⟩
  refine Runs.st (X0.baloadBytes hx (j := (4 : Int32)) (v := (.int (97 : Int32))) (by rw [e0]; exact Ar16_.1) (State.isArrayOf_alike hZ.alike Ar16_.2.1) Ar16_.2.2 hin16_ (Ha16_.at hin16_ (by first | rfl | decide)) (g := (mkF m 17 #[.val (.ref b), .val (.ref d), .val (.int (4 : Int32))] [(.int (4 : Int32)), (.ref b)])) rfl rfl (hb hby d_jdk_43_method_13_17)) ?_
  show Runs p.tables e below _ (s₁.setTop (mkF m 18 #[.val (.ref b), .val (.ref d), .val (.int (4 : Int32))] [(.int (97 : Int32))]))
  refine Runs.st (fun t' k' => XS.aloadN X0.here hx rfl (hb hby d_jdk_43_method_13_18) rfl rfl k') ?_
  show Runs p.tables e below _ (s₁.setTop (mkF m 19 #[.val (.ref b), .val (.ref d), .val (.int (4 : Int32))] [(.ref d), (.int (97 : Int32))]))
  refine Runs.st (fun t' k' => XS.iloadN X0.here hx rfl (hb hby d_jdk_43_method_13_19) rfl k') ?_
  show Runs p.tables e below _ (s₁.setTop (mkF m 20 #[.val (.ref b), .val (.ref d), .val (.int (4 : Int32))] [(.int (4 : Int32)), (.ref d), (.int (97 : Int32))]))
  obtain ⟨cl17_, Ar17_, -, S17_, M17_, Ha17_, -⟩ := id V2
  have hin17_ : ¬ ((4 : Int32) < 0 ∨ cl17_.slots.size ≤ ((4 : Int32)).toNatClampNeg) := inb_of S17_ ⟨by decide, by decide⟩
  refine Runs.st (X0.baloadBytes hx (j := (4 : Int32)) (v := (.int (97 : Int32))) (by rw [e0]; exact Ar17_.1) (State.isArrayOf_alike hZ.alike Ar17_.2.1) Ar17_.2.2 hin17_ (Ha17_.at hin17_ (by first | rfl | decide)) (g := (mkF m 20 #[.val (.ref b), .val (.ref d), .val (.int (4 : Int32))] [(.int (4 : Int32)), (.ref d), (.int (97 : Int32))])) rfl rfl (hb hby d_jdk_43_method_13_20)) ?_
  show Runs p.tables e below _ (s₁.setTop (mkF m 21 #[.val (.ref b), .val (.ref d), .val (.int (4 : Int32))] [(.int (97 : Int32)), (.int (97 : Int32))]))
  refine Runs.st (fun t' k' => XS.icmpYes X0.here hx rfl (pc0 := 21) (pc' := 26) rfl (hb hby d_jdk_43_method_13_21) rfl (teq rfl).1 (by decide) (by decide) k') ?_
  show Runs p.tables e below _ (s₁.setTop (mkF m 26 #[.val (.ref b), .val (.ref d), .val (.int (4 : Int32))] []))
  refine Runs.st (fun t' k' => XS.iinc X0.here hx rfl (hb hby d_jdk_43_method_13_26) rfl (l' := #[.val (.ref b), .val (.ref d), .val (.int ((4 : Int32) + (1 : Int32)))]) rfl k') ?_
  show Runs p.tables e below _ (s₁.setTop (mkF m 29 #[.val (.ref b), .val (.ref d), .val (.int ((4 : Int32) + (1 : Int32)))] []))
  rw [show ((4 : Int32) + (1 : Int32)) = (5 : Int32) from rfl]
  show Runs p.tables e below _ (s₁.setTop (mkF m 29 #[.val (.ref b), .val (.ref d), .val (.int (5 : Int32))] []))
  refine Runs.st (fun t' k' => XS.goto X0.here hx rfl (pc0 := 29) (pc' := 9) rfl (hb hby d_jdk_43_method_13_29) (by decide) (by decide) k') ?_
  show Runs p.tables e below _ (s₁.setTop (mkF m 9 #[.val (.ref b), .val (.ref d), .val (.int (5 : Int32))] []))
  refine Runs.st (fun t' k' => XS.iloadN X0.here hx rfl (hb hby d_jdk_43_method_13_9) rfl k') ?_
  show Runs p.tables e below _ (s₁.setTop (mkF m 10 #[.val (.ref b), .val (.ref d), .val (.int (5 : Int32))] [(.int (5 : Int32))]))
  refine Runs.st (fun t' k' => XS.aloadN X0.here hx rfl (hb hby d_jdk_43_method_13_10) rfl rfl k') ?_
  show Runs p.tables e below _ (s₁.setTop (mkF m 11 #[.val (.ref b), .val (.ref d), .val (.int (5 : Int32))] [(.ref b), (.int (5 : Int32))]))
  obtain ⟨cl18_, Ar18_, -, S18_, M18_, -, -⟩ := id V1
  refine Runs.st (X0.arraylength hx (by rw [e0]; exact Ar18_.1) (State.isArrayOf_alike hZ.alike Ar18_.2.1) (g := (mkF m 11 #[.val (.ref b), .val (.ref d), .val (.int (5 : Int32))] [(.ref b), (.int (5 : Int32))])) rfl rfl (hb hby d_jdk_43_method_13_11)) ?_
  rw [len_of S18_ M18_]
  show Runs p.tables e below _ (s₁.setTop (mkF m 12 #[.val (.ref b), .val (.ref d), .val (.int (5 : Int32))] [(.int (7 : Int32)), (.int (5 : Int32))]))
  refine Runs.st (fun t' k' => XS.icmpNo X0.here hx rfl (hb hby d_jdk_43_method_13_12) rfl (tlt (by decide)).2.1 k') ?_
  show Runs p.tables e below _ (s₁.setTop (mkF m 15 #[.val (.ref b), .val (.ref d), .val (.int (5 : Int32))] []))
  refine Runs.st (fun t' k' => XS.aloadN X0.here hx rfl (hb hby d_jdk_43_method_13_15) rfl rfl k') ?_
  show Runs p.tables e below _ (s₁.setTop (mkF m 16 #[.val (.ref b), .val (.ref d), .val (.int (5 : Int32))] [(.ref b)]))
  refine Runs.st (fun t' k' => XS.iloadN X0.here hx rfl (hb hby d_jdk_43_method_13_16) rfl k') ?_
  show Runs p.tables e below _ (s₁.setTop (mkF m 17 #[.val (.ref b), .val (.ref d), .val (.int (5 : Int32))] [(.int (5 : Int32)), (.ref b)]))
  obtain ⟨cl19_, Ar19_, -, S19_, M19_, Ha19_, -⟩ := id V1
  have hin19_ : ¬ ((5 : Int32) < 0 ∨ cl19_.slots.size ≤ ((5 : Int32)).toNatClampNeg) := inb_of S19_ ⟨by decide, by decide⟩
  refine Runs.st (X0.baloadBytes hx (j := (5 : Int32)) (v := (.int (105 : Int32))) (by rw [e0]; exact Ar19_.1) (State.isArrayOf_alike hZ.alike Ar19_.2.1) Ar19_.2.2 hin19_ (Ha19_.at hin19_ (by first | rfl | decide)) (g := (mkF m 17 #[.val (.ref b), .val (.ref d), .val (.int (5 : Int32))] [(.int (5 : Int32)), (.ref b)])) rfl rfl (hb hby d_jdk_43_method_13_17)) ?_
  show Runs p.tables e below _ (s₁.setTop (mkF m 18 #[.val (.ref b), .val (.ref d), .val (.int (5 : Int32))] [(.int (105 : Int32))]))
  refine Runs.st (fun t' k' => XS.aloadN X0.here hx rfl (hb hby d_jdk_43_method_13_18) rfl rfl k') ?_
  show Runs p.tables e below _ (s₁.setTop (mkF m 19 #[.val (.ref b), .val (.ref d), .val (.int (5 : Int32))] [(.ref d), (.int (105 : Int32))]))
  refine Runs.st (fun t' k' => XS.iloadN X0.here hx rfl (hb hby d_jdk_43_method_13_19) rfl k') ?_
  show Runs p.tables e below _ (s₁.setTop (mkF m 20 #[.val (.ref b), .val (.ref d), .val (.int (5 : Int32))] [(.int (5 : Int32)), (.ref d), (.int (105 : Int32))]))
  obtain ⟨cl20_, Ar20_, -, S20_, M20_, Ha20_, -⟩ := id V2
  have hin20_ : ¬ ((5 : Int32) < 0 ∨ cl20_.slots.size ≤ ((5 : Int32)).toNatClampNeg) := inb_of S20_ ⟨by decide, by decide⟩
  refine Runs.st (X0.baloadBytes hx (j := (5 : Int32)) (v := (.int (105 : Int32))) (by rw [e0]; exact Ar20_.1) (State.isArrayOf_alike hZ.alike Ar20_.2.1) Ar20_.2.2 hin20_ (Ha20_.at hin20_ (by first | rfl | decide)) (g := (mkF m 20 #[.val (.ref b), .val (.ref d), .val (.int (5 : Int32))] [(.int (5 : Int32)), (.ref d), (.int (105 : Int32))])) rfl rfl (hb hby d_jdk_43_method_13_20)) ?_
  show Runs p.tables e below _ (s₁.setTop (mkF m 21 #[.val (.ref b), .val (.ref d), .val (.int (5 : Int32))] [(.int (105 : Int32)), (.int (105 : Int32))]))
  refine Runs.st (fun t' k' => XS.icmpYes X0.here hx rfl (pc0 := 21) (pc' := 26) rfl (hb hby d_jdk_43_method_13_21) rfl (teq rfl).1 (by decide) (by decide) k') ?_
  show Runs p.tables e below _ (s₁.setTop (mkF m 26 #[.val (.ref b), .val (.ref d), .val (.int (5 : Int32))] []))
  refine Runs.st (fun t' k' => XS.iinc X0.here hx rfl (hb hby d_jdk_43_method_13_26) rfl (l' := #[.val (.ref b), .val (.ref d), .val (.int ((5 : Int32) + (1 : Int32)))]) rfl k') ?_
  show Runs p.tables e below _ (s₁.setTop (mkF m 29 #[.val (.ref b), .val (.ref d), .val (.int ((5 : Int32) + (1 : Int32)))] []))
  rw [show ((5 : Int32) + (1 : Int32)) = (6 : Int32) from rfl]
  show Runs p.tables e below _ (s₁.setTop (mkF m 29 #[.val (.ref b), .val (.ref d), .val (.int (6 : Int32))] []))
  refine Runs.st (fun t' k' => XS.goto X0.here hx rfl (pc0 := 29) (pc' := 9) rfl (hb hby d_jdk_43_method_13_29) (by decide) (by decide) k') ?_
  show Runs p.tables e below _ (s₁.setTop (mkF m 9 #[.val (.ref b), .val (.ref d), .val (.int (6 : Int32))] []))
  refine Runs.st (fun t' k' => XS.iloadN X0.here hx rfl (hb hby d_jdk_43_method_13_9) rfl k') ?_
  show Runs p.tables e below _ (s₁.setTop (mkF m 10 #[.val (.ref b), .val (.ref d), .val (.int (6 : Int32))] [(.int (6 : Int32))]))
  refine Runs.st (fun t' k' => XS.aloadN X0.here hx rfl (hb hby d_jdk_43_method_13_10) rfl rfl k') ?_
  show Runs p.tables e below _ (s₁.setTop (mkF m 11 #[.val (.ref b), .val (.ref d), .val (.int (6 : Int32))] [(.ref b), (.int (6 : Int32))]))
  obtain ⟨cl21_, Ar21_, -, S21_, M21_, -, -⟩ := id V1
  refine Runs.st (X0.arraylength hx (by rw [e0]; exact Ar21_.1) (State.isArrayOf_alike hZ.alike Ar21_.2.1) (g := (mkF m 11 #[.val (.ref b), .val (.ref d), .val (.int (6 : Int32))] [(.ref b), (.int (6 : Int32))])) rfl rfl (hb hby d_jdk_43_method_13_11)) ?_
  rw [len_of S21_ M21_]
  show Runs p.tables e below _ (s₁.setTop (mkF m 12 #[.val (.ref b), .val (.ref d), .val (.int (6 : Int32))] [(.int (7 : Int32)), (.int (6 : Int32))]))
  refine Runs.st (fun t' k' => XS.icmpNo X0.here hx rfl (hb hby d_jdk_43_method_13_12) rfl (tlt (by decide)).2.1 k') ?_
  show Runs p.tables e below _ (s₁.setTop (mkF m 15 #[.val (.ref b), .val (.ref d), .val (.int (6 : Int32))] []))
  refine Runs.st (fun t' k' => XS.aloadN X0.here hx rfl (hb hby d_jdk_43_method_13_15) rfl rfl k') ?_
  show Runs p.tables e below _ (s₁.setTop (mkF m 16 #[.val (.ref b), .val (.ref d), .val (.int (6 : Int32))] [(.ref b)]))
  refine Runs.st (fun t' k' => XS.iloadN X0.here hx rfl (hb hby d_jdk_43_method_13_16) rfl k') ?_
  show Runs p.tables e below _ (s₁.setTop (mkF m 17 #[.val (.ref b), .val (.ref d), .val (.int (6 : Int32))] [(.int (6 : Int32)), (.ref b)]))
  obtain ⟨cl22_, Ar22_, -, S22_, M22_, Ha22_, -⟩ := id V1
  have hin22_ : ¬ ((6 : Int32) < 0 ∨ cl22_.slots.size ≤ ((6 : Int32)).toNatClampNeg) := inb_of S22_ ⟨by decide, by decide⟩
  refine Runs.st (X0.baloadBytes hx (j := (6 : Int32)) (v := (.int (100 : Int32))) (by rw [e0]; exact Ar22_.1) (State.isArrayOf_alike hZ.alike Ar22_.2.1) Ar22_.2.2 hin22_ (Ha22_.at hin22_ (by first | rfl | decide)) (g := (mkF m 17 #[.val (.ref b), .val (.ref d), .val (.int (6 : Int32))] [(.int (6 : Int32)), (.ref b)])) rfl rfl (hb hby d_jdk_43_method_13_17)) ?_
  show Runs p.tables e below _ (s₁.setTop (mkF m 18 #[.val (.ref b), .val (.ref d), .val (.int (6 : Int32))] [(.int (100 : Int32))]))
  refine Runs.st (fun t' k' => XS.aloadN X0.here hx rfl (hb hby d_jdk_43_method_13_18) rfl rfl k') ?_
  show Runs p.tables e below _ (s₁.setTop (mkF m 19 #[.val (.ref b), .val (.ref d), .val (.int (6 : Int32))] [(.ref d), (.int (100 : Int32))]))
  refine Runs.st (fun t' k' => XS.iloadN X0.here hx rfl (hb hby d_jdk_43_method_13_19) rfl k') ?_
  show Runs p.tables e below _ (s₁.setTop (mkF m 20 #[.val (.ref b), .val (.ref d), .val (.int (6 : Int32))] [(.int (6 : Int32)), (.ref d), (.int (100 : Int32))]))
  obtain ⟨cl23_, Ar23_, -, S23_, M23_, Ha23_, -⟩ := id V2
  have hin23_ : ¬ ((6 : Int32) < 0 ∨ cl23_.slots.size ≤ ((6 : Int32)).toNatClampNeg) := inb_of S23_ ⟨by decide, by decide⟩
  refine Runs.st (X0.baloadBytes hx (j := (6 : Int32)) (v := (.int (100 : Int32))) (by rw [e0]; exact Ar23_.1) (State.isArrayOf_alike hZ.alike Ar23_.2.1) Ar23_.2.2 hin23_ (Ha23_.at hin23_ (by first | rfl | decide)) (g := (mkF m 20 #[.val (.ref b), .val (.ref d), .val (.int (6 : Int32))] [(.int (6 : Int32)), (.ref d), (.int (100 : Int32))])) rfl rfl (hb hby d_jdk_43_method_13_20)) ?_
  show Runs p.tables e below _ (s₁.setTop (mkF m 21 #[.val (.ref b), .val (.ref d), .val (.int (6 : Int32))] [(.int (100 : Int32)), (.int (100 : Int32))]))
  refine Runs.st (fun t' k' => XS.icmpYes X0.here hx rfl (pc0 := 21) (pc' := 26) rfl (hb hby d_jdk_43_method_13_21) rfl (teq rfl).1 (by decide) (by decide) k') ?_
  show Runs p.tables e below _ (s₁.setTop (mkF m 26 #[.val (.ref b), .val (.ref d), .val (.int (6 : Int32))] []))
  refine Runs.st (fun t' k' => XS.iinc X0.here hx rfl (hb hby d_jdk_43_method_13_26) rfl (l' := #[.val (.ref b), .val (.ref d), .val (.int ((6 : Int32) + (1 : Int32)))]) rfl k') ?_
  show Runs p.tables e below _ (s₁.setTop (mkF m 29 #[.val (.ref b), .val (.ref d), .val (.int ((6 : Int32) + (1 : Int32)))] []))
  rw [show ((6 : Int32) + (1 : Int32)) = (7 : Int32) from rfl]
  show Runs p.tables e below _ (s₁.setTop (mkF m 29 #[.val (.ref b), .val (.ref d), .val (.int (7 : Int32))] []))
  refine Runs.st (fun t' k' => XS.goto X0.here hx rfl (pc0 := 29) (pc' := 9) rfl (hb hby d_jdk_43_method_13_29) (by decide) (by decide) k') ?_
  show Runs p.tables e below _ (s₁.setTop (mkF m 9 #[.val (.ref b), .val (.ref d), .val (.int (7 : Int32))] []))
  refine Runs.st (fun t' k' => XS.iloadN X0.here hx rfl (hb hby d_jdk_43_method_13_9) rfl k') ?_
  show Runs p.tables e below _ (s₁.setTop (mkF m 10 #[.val (.ref b), .val (.ref d), .val (.int (7 : Int32))] [(.int (7 : Int32))]))
  refine Runs.st (fun t' k' => XS.aloadN X0.here hx rfl (hb hby d_jdk_43_method_13_10) rfl rfl k') ?_
  show Runs p.tables e below _ (s₁.setTop (mkF m 11 #[.val (.ref b), .val (.ref d), .val (.int (7 : Int32))] [(.ref b), (.int (7 : Int32))]))
  obtain ⟨cl24_, Ar24_, -, S24_, M24_, -, -⟩ := id V1
  refine Runs.st (X0.arraylength hx (by rw [e0]; exact Ar24_.1) (State.isArrayOf_alike hZ.alike Ar24_.2.1) (g := (mkF m 11 #[.val (.ref b), .val (.ref d), .val (.int (7 : Int32))] [(.ref b), (.int (7 : Int32))])) rfl rfl (hb hby d_jdk_43_method_13_11)) ?_
  rw [len_of S24_ M24_]
  show Runs p.tables e below _ (s₁.setTop (mkF m 12 #[.val (.ref b), .val (.ref d), .val (.int (7 : Int32))] [(.int (7 : Int32)), (.int (7 : Int32))]))
  refine Runs.st (fun t' k' => XS.icmpYes X0.here hx rfl (pc0 := 12) (pc' := 32) rfl (hb hby d_jdk_43_method_13_12) rfl (flt (by decide)).2.1 (by decide) (by decide) k') ?_
  show Runs p.tables e below _ (s₁.setTop (mkF m 32 #[.val (.ref b), .val (.ref d), .val (.int (7 : Int32))] []))
  refine Runs.st (fun t' k' => XS.iconst X0.here hx rfl (hb hby d_jdk_43_method_13_32) k') ?_
  show Runs p.tables e below _ (s₁.setTop (mkF m 33 #[.val (.ref b), .val (.ref d), .val (.int (7 : Int32))] [(.int (1 : Int32))]))
  refine Runs.ret X0 hlk (v := (some (.int (1 : Int32)))) (fun h => by rw [hret] at h; cases h) (by decide) (by decide) ?_ (fun fs hr => retN X0 hx (t := .boolean) hret (by simp) (hb hby d_jdk_43_method_13_33) hr)
  try rw [e0]
  exact ⟨rfl, N0, rfl⟩
def Q_rmSE0 (Z : State) (a : Addr) (oo : Addr) (zc : Int32) (b d : Addr) (k1 k2 : ClassId) (h0 : Heap) (n0 : Nat) : Option Value → Heap → List Loc → Prop := (fun v h L => v = some (.int (1 : Int32)) ∧ Fr n0 L ∧ h = h0)
theorem pn_java_lang_String : plainName "java/lang/String" = true := by first | (simp [plainName, overriddenIn]; done) | decide +kernel
theorem ef_jdk_42_method_66_RR (m : MethodId) (x0 : Addr) (x1 : Addr)  : entryFrame m #[(.ref x0), (.ref x1)] 3 = mkF m 0 #[.val (.ref x0), .val (.ref x1), .unset] [] := by first | (simp [entryFrame, mkF, argsToLocals, Value.category]; done) | rfl
theorem d_jdk_42_method_66_0 : decode jdk_42_method_66_code 0 = .ok (.aload_n 0, 1) := by decide +kernel
theorem d_jdk_42_method_66_1 : decode jdk_42_method_66_code 1 = .ok (.aload_n 1, 1) := by decide +kernel
theorem d_jdk_42_method_66_2 : decode jdk_42_method_66_code 2 = .ok (.if_acmp .ne 5, 3) := by decide +kernel
theorem d_jdk_42_method_66_5 : decode jdk_42_method_66_code 5 = .ok (.iconst 1, 1) := by decide +kernel
theorem d_jdk_42_method_66_6 : decode jdk_42_method_66_code 6 = .ok (.ireturn, 1) := by decide +kernel
theorem d_jdk_42_method_66_7 : decode jdk_42_method_66_code 7 = .ok (.aload_n 1, 1) := by decide +kernel
theorem d_jdk_42_method_66_8 : decode jdk_42_method_66_code 8 = .ok (.instanceof 10, 3) := by decide +kernel
theorem d_jdk_42_method_66_11 : decode jdk_42_method_66_code 11 = .ok (.ifCond .eq 43, 3) := by decide +kernel
theorem d_jdk_42_method_66_14 : decode jdk_42_method_66_code 14 = .ok (.aload_n 1, 1) := by decide +kernel
theorem d_jdk_42_method_66_15 : decode jdk_42_method_66_code 15 = .ok (.checkcast 10, 3) := by decide +kernel
theorem d_jdk_42_method_66_18 : decode jdk_42_method_66_code 18 = .ok (.astore_n 2, 1) := by decide +kernel
theorem d_jdk_42_method_66_19 : decode jdk_42_method_66_code 19 = .ok (.getstatic 38, 3) := by decide +kernel
theorem d_jdk_42_method_66_22 : decode jdk_42_method_66_code 22 = .ok (.ifCond .eq 14, 3) := by decide +kernel
theorem d_jdk_42_method_66_25 : decode jdk_42_method_66_code 25 = .ok (.aload_n 0, 1) := by decide +kernel
theorem d_jdk_42_method_66_26 : decode jdk_42_method_66_code 26 = .ok (.getfield 15, 3) := by decide +kernel
theorem d_jdk_42_method_66_29 : decode jdk_42_method_66_code 29 = .ok (.aload_n 2, 1) := by decide +kernel
theorem d_jdk_42_method_66_30 : decode jdk_42_method_66_code 30 = .ok (.getfield 15, 3) := by decide +kernel
theorem d_jdk_42_method_66_33 : decode jdk_42_method_66_code 33 = .ok (.if_icmp .ne 21, 3) := by decide +kernel
theorem d_jdk_42_method_66_36 : decode jdk_42_method_66_code 36 = .ok (.aload_n 0, 1) := by decide +kernel
theorem d_jdk_42_method_66_37 : decode jdk_42_method_66_code 37 = .ok (.getfield 9, 3) := by decide +kernel
theorem d_jdk_42_method_66_40 : decode jdk_42_method_66_code 40 = .ok (.aload_n 2, 1) := by decide +kernel
theorem d_jdk_42_method_66_41 : decode jdk_42_method_66_code 41 = .ok (.getfield 9, 3) := by decide +kernel
theorem pd__28_5bB_5bB_29Z : parseMethodDescriptor "([B[B)Z" = some ⟨[(.array .byte), (.array .byte)], some .boolean⟩ := by decide +kernel
theorem d_jdk_42_method_66_44 : decode jdk_42_method_66_code 44 = .ok (.invokestatic 541, 3) := by decide +kernel
theorem d_jdk_42_method_66_47 : decode jdk_42_method_66_code 47 = .ok (.ifCond .eq 7, 3) := by decide +kernel
theorem d_jdk_42_method_66_50 : decode jdk_42_method_66_code 50 = .ok (.iconst 1, 1) := by decide +kernel
theorem d_jdk_42_method_66_51 : decode jdk_42_method_66_code 51 = .ok (.goto 4, 3) := by decide +kernel
theorem d_jdk_42_method_66_55 : decode jdk_42_method_66_code 55 = .ok (.ireturn, 1) := by decide +kernel
set_option maxRecDepth 65536 in
set_option maxHeartbeats 40000000 in
theorem rmSE0 (l : Launch) (Z : State) (a0 : Array Value) (hw : ∀ d ∈ tables_1, d.before a0 Z = true) (ws : List Jvm.Cond) (a : Addr) (oo : Addr) (zc : Int32) (b d : Addr) (k1 k2 : ClassId) (h0 : Heap) (n0 : Nat) (Z0 : n0 ≤ h0.size) (Sc : Sta Z h0 "java/lang/String" "COMPACT_STRINGS" "Z" (.int zc)) (hzc : ¬ zc = 0) (Ea : Exa Z h0 a "java/lang/String") (Ca : Fld Z h0 a "java/lang/String" "coder" "B" (.int (0 : Int32))) (Va : Fld Z h0 a "java/lang/String" "value" "[B" (.ref b)) (Eo : Exa Z h0 oo "java/lang/String") (Co : Fld Z h0 oo "java/lang/String" "coder" "B" (.int (0 : Int32))) (Vo : Fld Z h0 oo "java/lang/String" "value" "[B" (.ref d)) (V1 : Arv Z h0 b k1 .byte (7 : Int32) [(.int (80 : Int32)), (.int (114 : Int32)), (.int (101 : Int32)), (.int (80 : Int32)), (.int (97 : Int32)), (.int (105 : Int32)), (.int (100 : Int32))] (.int (0 : Int32))) (V2 : Arv Z h0 d k2 .byte (7 : Int32) [(.int (80 : Int32)), (.int (114 : Int32)), (.int (101 : Int32)), (.int (80 : Int32)), (.int (97 : Int32)), (.int (105 : Int32)), (.int (100 : Int32))] (.int (0 : Int32))) :
    MetFree l (⟨"java/lang/String", "equals", "(Ljava/lang/Object;)Z"⟩ : MethodName) (head1 (Jvm.Cond.code (⟨"java/lang/String", "equals", "(Ljava/lang/Object;)Z"⟩ : MethodName) jdk_42_method_66_code 3 (some .boolean) :: ws) ({ frames := 1, cells := 0, slots := 0, locals := 14 } : Room)) (fun ar_ U => ar_ = #[(.ref a), (.ref oo)] ∧ Z.Warmed39 U.vm ∧ U.heap = h0) (fun _ _ _ _ _ => True) (fun _ U o U' => Phi U (Q_rmSE0 Z a oo zc b d k1 k2 h0 n0) ({ frames := 1, cells := 0, slots := 0, locals := 14 } : Room).cells ({ frames := 1, cells := 0, slots := 0, locals := 14 } : Room).slots o U') := by
  refine MetFree.of_bodySF (plainFor_of_name pn_java_lang_String) hisR ?_
  intro p e s m args below meth c s₁ Bd hml0 hP hK
  obtain ⟨rfl, hZ, hh⟩ := hP
  have hx := Bd.exec
  have hby := Bd.bytes
  have hlk := Bd.notSynchronized
  have hml : c.maxLocals = 3 := hml0
  have hown : s.vm.findClass "java/lang/String" = some m.cls := findClass_of_methodNamed Bd.named
  have hown0 := hown
  have hnm := (name_of_methodNamed Bd.named Bd.method).1
  have hret := Bd.returns
  have X0 : Stand p l e ({ frames := 1, cells := 0, slots := 0, locals := 14 } : Room) s m #[(.ref a), (.ref oo)] below meth c s₁ [] 0 0 := Stand.of_body Bd
  have e0 : s₁.heap = h0 := by rw [← hh, Bd.state]; rfl
  have N0 := Fr.nil n0
  have sz := Z0
  have K := Keep.refl h0 []
  show Runs p.tables e below (Phi s (Q_rmSE0 Z a oo zc b d k1 k2 h0 n0) ({ frames := 1, cells := 0, slots := 0, locals := 14 } : Room).cells ({ frames := 1, cells := 0, slots := 0, locals := 14 } : Room).slots) _
  refine Runs.st (fun t' k' => castTop (ef_jdk_42_method_66_RR m a oo ) k') ?_
  show Runs p.tables e below _ (s₁.setTop (mkF m 0 #[.val (.ref a), .val (.ref oo), .unset] []))
  refine Runs.st (fun t' k' => XS.aloadN X0.here hx rfl (hb hby d_jdk_42_method_66_0) rfl rfl k') ?_
  show Runs p.tables e below _ (s₁.setTop (mkF m 1 #[.val (.ref a), .val (.ref oo), .unset] [(.ref a)]))
  refine Runs.st (fun t' k' => XS.aloadN X0.here hx rfl (hb hby d_jdk_42_method_66_1) rfl rfl k') ?_
  show Runs p.tables e below _ (s₁.setTop (mkF m 2 #[.val (.ref a), .val (.ref oo), .unset] [(.ref oo), (.ref a)]))
  by_cases q1 : a = oo
  · skip
    refine Runs.st (fun t' k' => Jvm.RoadKit.acmp (g := (mkF m 2 #[.val (.ref a), .val (.ref oo), .unset] [(.ref oo), (.ref a)])) X0 hx rfl rfl rfl (pc0 := 2) (pc' := 5) (same := true) rfl (hb hby d_jdk_42_method_66_2) rfl (decide_eq_true (congrArg Value.ref q1)) (by decide) (by decide) k') ?_
    show Runs p.tables e below _ (s₁.setTop (mkF m 5 #[.val (.ref a), .val (.ref oo), .unset] []))
    refine Runs.st (fun t' k' => XS.iconst X0.here hx rfl (hb hby d_jdk_42_method_66_5) k') ?_
    show Runs p.tables e below _ (s₁.setTop (mkF m 6 #[.val (.ref a), .val (.ref oo), .unset] [(.int (1 : Int32))]))
    refine Runs.ret X0 hlk (v := (some (.int (1 : Int32)))) (fun h => by rw [hret] at h; cases h) (by decide) (by decide) ?_ (fun fs hr => retN X0 hx (t := .boolean) hret (by simp) (hb hby d_jdk_42_method_66_6) hr)
    try rw [e0]
    exact ⟨rfl, N0, rfl⟩
  · skip
    refine Runs.st (fun t' k' => Jvm.RoadKit.acmp (g := (mkF m 2 #[.val (.ref a), .val (.ref oo), .unset] [(.ref oo), (.ref a)])) X0 hx rfl rfl rfl (pc0 := 2) (pc' := 7) (same := false) rfl (hb hby d_jdk_42_method_66_2) rfl (decide_eq_false fun q => q1 (Value.ref.inj q)) (by decide) (by decide) k') ?_
    show Runs p.tables e below _ (s₁.setTop (mkF m 7 #[.val (.ref a), .val (.ref oo), .unset] []))
    refine Runs.st (fun t' k' => XS.aloadN X0.here hx rfl (hb hby d_jdk_42_method_66_7) rfl rfl k') ?_
    show Runs p.tables e below _ (s₁.setTop (mkF m 8 #[.val (.ref a), .val (.ref oo), .unset] [(.ref oo)]))
    obtain ⟨T1_, X1_, e1_, st1_⟩ := instY X0 hx hZ hown (hw _ (List.mem_of_getElem? (i := 29) rfl)) e0 (Ins.self Eo) (g := (mkF m 8 #[.val (.ref a), .val (.ref oo), .unset] [(.ref oo)])) rfl rfl (hb hby d_jdk_42_method_66_8)
    refine Runs.st (st1_) ?_
    show Runs p.tables e below _ (T1_.setTop (mkF m 11 #[.val (.ref a), .val (.ref oo), .unset] [(.int (1 : Int32))]))
    refine Runs.st (fun t' k' => XS.ifNo X1_.here hx rfl (hb hby d_jdk_42_method_66_11) rfl ((if0 _ _).trans (feq (by decide)).1) k') ?_
    show Runs p.tables e below _ (T1_.setTop (mkF m 14 #[.val (.ref a), .val (.ref oo), .unset] []))
    refine Runs.st (fun t' k' => XS.aloadN X1_.here hx rfl (hb hby d_jdk_42_method_66_14) rfl rfl k') ?_
    show Runs p.tables e below _ (T1_.setTop (mkF m 15 #[.val (.ref a), .val (.ref oo), .unset] [(.ref oo)]))
    obtain ⟨T2_, X2_, e2_, st2_⟩ := castY X1_ hx hZ hown (hw _ (List.mem_of_getElem? (i := 29) rfl)) e1_ (Ins.self Eo) (g := (mkF m 15 #[.val (.ref a), .val (.ref oo), .unset] [(.ref oo)])) rfl rfl (hb hby d_jdk_42_method_66_15)
    refine Runs.st (st2_) ?_
    show Runs p.tables e below _ (T2_.setTop (mkF m 18 #[.val (.ref a), .val (.ref oo), .unset] [(.ref oo)]))
    refine Runs.st (fun t' k' => XS.astoreN X2_.here hx rfl (hb hby d_jdk_42_method_66_18) rfl rfl (l' := #[.val (.ref a), .val (.ref oo), .val (.ref oo)]) rfl k') ?_
    show Runs p.tables e below _ (T2_.setTop (mkF m 19 #[.val (.ref a), .val (.ref oo), .val (.ref oo)] []))
    obtain ⟨T3_, X3_, e3_, st3_⟩ := getS2 X2_ hx hZ hown (host := "") (Or.inl (hw _ (List.mem_of_getElem? (i := 31) rfl))) Via.refl e2_ Sc (g := (mkF m 19 #[.val (.ref a), .val (.ref oo), .val (.ref oo)] [])) rfl (hb hby d_jdk_42_method_66_19)
    refine Runs.st (st3_) ?_
    show Runs p.tables e below _ (T3_.setTop (mkF m 22 #[.val (.ref a), .val (.ref oo), .val (.ref oo)] [(.int zc)]))
    refine Runs.st (fun t' k' => XS.ifNo X3_.here hx rfl (hb hby d_jdk_42_method_66_22) rfl ((if0 _ _).trans (feq hzc).1) k') ?_
    show Runs p.tables e below _ (T3_.setTop (mkF m 25 #[.val (.ref a), .val (.ref oo), .val (.ref oo)] []))
    refine Runs.st (fun t' k' => XS.aloadN X3_.here hx rfl (hb hby d_jdk_42_method_66_25) rfl rfl k') ?_
    show Runs p.tables e below _ (T3_.setTop (mkF m 26 #[.val (.ref a), .val (.ref oo), .val (.ref oo)] [(.ref a)]))
    obtain ⟨T4_, X4_, e4_, st4_⟩ := getF X3_ hx hZ hown (host := "") (Or.inl (hw _ (List.mem_of_getElem? (i := 32) rfl))) Via.refl e3_ Ca (g := (mkF m 26 #[.val (.ref a), .val (.ref oo), .val (.ref oo)] [(.ref a)])) rfl rfl (hb hby d_jdk_42_method_66_26)
    refine Runs.st (st4_) ?_
    show Runs p.tables e below _ (T4_.setTop (mkF m 29 #[.val (.ref a), .val (.ref oo), .val (.ref oo)] [(.int (0 : Int32))]))
    refine Runs.st (fun t' k' => XS.aloadN X4_.here hx rfl (hb hby d_jdk_42_method_66_29) rfl rfl k') ?_
    show Runs p.tables e below _ (T4_.setTop (mkF m 30 #[.val (.ref a), .val (.ref oo), .val (.ref oo)] [(.ref oo), (.int (0 : Int32))]))
    obtain ⟨T5_, X5_, e5_, st5_⟩ := getF X4_ hx hZ hown (host := "") (Or.inl (hw _ (List.mem_of_getElem? (i := 32) rfl))) Via.refl e4_ Co (g := (mkF m 30 #[.val (.ref a), .val (.ref oo), .val (.ref oo)] [(.ref oo), (.int (0 : Int32))])) rfl rfl (hb hby d_jdk_42_method_66_30)
    refine Runs.st (st5_) ?_
    show Runs p.tables e below _ (T5_.setTop (mkF m 33 #[.val (.ref a), .val (.ref oo), .val (.ref oo)] [(.int (0 : Int32)), (.int (0 : Int32))]))
    refine Runs.st (fun t' k' => XS.icmpNo X5_.here hx rfl (hb hby d_jdk_42_method_66_33) rfl (teq rfl).2 k') ?_
    show Runs p.tables e below _ (T5_.setTop (mkF m 36 #[.val (.ref a), .val (.ref oo), .val (.ref oo)] []))
    refine Runs.st (fun t' k' => XS.aloadN X5_.here hx rfl (hb hby d_jdk_42_method_66_36) rfl rfl k') ?_
    show Runs p.tables e below _ (T5_.setTop (mkF m 37 #[.val (.ref a), .val (.ref oo), .val (.ref oo)] [(.ref a)]))
    obtain ⟨T6_, X6_, e6_, st6_⟩ := getF X5_ hx hZ hown (host := "") (Or.inl (hw _ (List.mem_of_getElem? (i := 33) rfl))) Via.refl e5_ Va (g := (mkF m 37 #[.val (.ref a), .val (.ref oo), .val (.ref oo)] [(.ref a)])) rfl rfl (hb hby d_jdk_42_method_66_37)
    refine Runs.st (st6_) ?_
    show Runs p.tables e below _ (T6_.setTop (mkF m 40 #[.val (.ref a), .val (.ref oo), .val (.ref oo)] [(.ref b)]))
    refine Runs.st (fun t' k' => XS.aloadN X6_.here hx rfl (hb hby d_jdk_42_method_66_40) rfl rfl k') ?_
    show Runs p.tables e below _ (T6_.setTop (mkF m 41 #[.val (.ref a), .val (.ref oo), .val (.ref oo)] [(.ref oo), (.ref b)]))
    obtain ⟨T7_, X7_, e7_, st7_⟩ := getF X6_ hx hZ hown (host := "") (Or.inl (hw _ (List.mem_of_getElem? (i := 33) rfl))) Via.refl e6_ Vo (g := (mkF m 41 #[.val (.ref a), .val (.ref oo), .val (.ref oo)] [(.ref oo), (.ref b)])) rfl rfl (hb hby d_jdk_42_method_66_41)
    refine Runs.st (st7_) ?_
    show Runs p.tables e below _ (T7_.setTop (mkF m 44 #[.val (.ref a), .val (.ref oo), .val (.ref oo)] [(.ref d), (.ref b)]))
    obtain ⟨_, _, ⟨T8_, L8_, k8_, n8_⟩, -, X8_, ⟨Lc8_, hQ8_, l8_, y8_, z8_⟩, st8_⟩ := Jvm.LawKit.callS X7_ hx (y := (⟨"java/lang/StringLatin1", "equals", "([B[B)Z"⟩ : MethodName)) hown (mvT hZ (hw _ (List.mem_of_getElem? (i := 34) rfl))) (mvT hZ (hw _ (List.mem_of_getElem? (i := 35) rfl))) (mvT hZ (hw _ (List.mem_of_getElem? (i := 36) rfl))) (mvT hZ (hw _ (List.mem_of_getElem? (i := 37) rfl))) (by decide) (backOf (W := 0) (rmLE0 l Z a0 hw [] b d k1 k2 h0 n0 sz V1 V2) hZ (hw _ (List.mem_of_getElem? (i := 37) rfl)) (hw _ (List.mem_of_getElem? (i := 36) rfl)) (by decide) (by decide)) (g := (mkF m 44 #[.val (.ref a), .val (.ref oo), .val (.ref oo)] [(.ref d), (.ref b)])) rfl (by rw [hml]; rfl) (argsL := [(.ref b), (.ref d)]) (rest := []) (lenOf pd__28_5bB_5bB_29Z rfl) rfl (by show 2 * 0 + _ ≤ _; exact Nat.le_of_eq rfl) (hb hby d_jdk_42_method_66_44) (fun _ _ => ⟨rfl, e7_, (by decide : 0 + 0 ≤ _), (by decide : 0 + 0 ≤ _)⟩)
    dsimp only [Pt.U, Pt.locs, Pt.cells, Pt.slots] at X8_ l8_ y8_ z8_ st8_ hQ8_
    subst l8_ y8_ z8_
    obtain ⟨rfl, N8_q, e8_⟩ := hQ8_
    have N8_ := Fr.app N0 N8_q
    refine Runs.st (st8_) ?_
    replace X8_ := wider X8_ (c' := 0) (s' := 0) (by decide) (by decide)
    show Runs p.tables e below _ (T8_.setTop (mkF m 47 #[.val (.ref a), .val (.ref oo), .val (.ref oo)] [(.int (1 : Int32))]))
    refine Runs.st (fun t' k' => XS.ifNo X8_.here hx rfl (hb hby d_jdk_42_method_66_47) rfl ((if0 _ _).trans (feq (by decide)).1) k') ?_
    show Runs p.tables e below _ (T8_.setTop (mkF m 50 #[.val (.ref a), .val (.ref oo), .val (.ref oo)] []))
    refine Runs.st (fun t' k' => XS.iconst X8_.here hx rfl (hb hby d_jdk_42_method_66_50) k') ?_
    show Runs p.tables e below _ (T8_.setTop (mkF m 51 #[.val (.ref a), .val (.ref oo), .val (.ref oo)] [(.int (1 : Int32))]))
    refine Runs.st (fun t' k' => XS.goto X8_.here hx rfl (pc0 := 51) (pc' := 55) rfl (hb hby d_jdk_42_method_66_51) (by decide) (by decide) k') ?_
    show Runs p.tables e below _ (T8_.setTop (mkF m 55 #[.val (.ref a), .val (.ref oo), .val (.ref oo)] [(.int (1 : Int32))]))
    refine Runs.ret X8_ hlk (v := (some (.int (1 : Int32)))) (fun h => by rw [hret] at h; cases h) (by decide) (by decide) ?_ (fun fs hr => retN X8_ hx (t := .boolean) hret (by simp) (hb hby d_jdk_42_method_66_55) hr)
    try rw [e8_]
    exact ⟨rfl, N8_, rfl⟩
def Q_rmLE1 (Z : State) (b : Addr) (d : Addr) (k1 k2 : ClassId) (h0 : Heap) (n0 : Nat) : Option Value → Heap → List Loc → Prop := (fun v h L => v = some (.int (0 : Int32)) ∧ Fr n0 L ∧ h = h0)
theorem d_jdk_43_method_13_34 : decode jdk_43_method_13_code 34 = .ok (.iconst 0, 1) := by decide +kernel
theorem d_jdk_43_method_13_35 : decode jdk_43_method_13_code 35 = .ok (.ireturn, 1) := by decide +kernel
set_option maxRecDepth 65536 in
set_option maxHeartbeats 40000000 in
theorem rmLE1 (l : Launch) (Z : State) (a0 : Array Value) (hw : ∀ d ∈ tables_1, d.before a0 Z = true) (ws : List Jvm.Cond) (b : Addr) (d : Addr) (k1 k2 : ClassId) (h0 : Heap) (n0 : Nat) (Z0 : n0 ≤ h0.size) (V1 : Arv Z h0 b k1 .byte (8 : Int32) [(.int (80 : Int32)), (.int (111 : Int32)), (.int (115 : Int32)), (.int (116 : Int32)), (.int (80 : Int32)), (.int (97 : Int32)), (.int (105 : Int32)), (.int (100 : Int32))] (.int (0 : Int32))) (V2 : Arv Z h0 d k2 .byte (7 : Int32) [(.int (80 : Int32)), (.int (114 : Int32)), (.int (101 : Int32)), (.int (80 : Int32)), (.int (97 : Int32)), (.int (105 : Int32)), (.int (100 : Int32))] (.int (0 : Int32))) :
    MetFree l (⟨"java/lang/StringLatin1", "equals", "([B[B)Z"⟩ : MethodName) (head1 (Jvm.Cond.code (⟨"java/lang/StringLatin1", "equals", "([B[B)Z"⟩ : MethodName) jdk_43_method_13_code 3 (some .boolean) :: ws) ({ frames := 0, cells := 0, slots := 0, locals := 0 } : Room)) (fun ar_ U => ar_ = #[(.ref b), (.ref d)] ∧ Z.Warmed39 U.vm ∧ U.heap = h0) (fun _ _ _ _ _ => True) (fun _ U o U' => Phi U (Q_rmLE1 Z b d k1 k2 h0 n0) ({ frames := 0, cells := 0, slots := 0, locals := 0 } : Room).cells ({ frames := 0, cells := 0, slots := 0, locals := 0 } : Room).slots o U') := by
  refine MetFree.of_bodySF (plainFor_of_name pn_java_lang_StringLatin1) hisR ?_
  intro p e s m args below meth c s₁ Bd hml0 hP hK
  obtain ⟨rfl, hZ, hh⟩ := hP
  have hx := Bd.exec
  have hby := Bd.bytes
  have hlk := Bd.notSynchronized
  have hml : c.maxLocals = 3 := hml0
  have hown : s.vm.findClass "java/lang/StringLatin1" = some m.cls := findClass_of_methodNamed Bd.named
  have hown0 := hown
  have hnm := (name_of_methodNamed Bd.named Bd.method).1
  have hret := Bd.returns
  have X0 : Stand p l e ({ frames := 0, cells := 0, slots := 0, locals := 0 } : Room) s m #[(.ref b), (.ref d)] below meth c s₁ [] 0 0 := Stand.of_body Bd
  have e0 : s₁.heap = h0 := by rw [← hh, Bd.state]; rfl
  have N0 := Fr.nil n0
  have sz := Z0
  have K := Keep.refl h0 []
  show Runs p.tables e below (Phi s (Q_rmLE1 Z b d k1 k2 h0 n0) ({ frames := 0, cells := 0, slots := 0, locals := 0 } : Room).cells ({ frames := 0, cells := 0, slots := 0, locals := 0 } : Room).slots) _
  refine Runs.st (fun t' k' => castTop (ef_jdk_43_method_13_RR m b d ) k') ?_
  show Runs p.tables e below _ (s₁.setTop (mkF m 0 #[.val (.ref b), .val (.ref d), .unset] []))
  refine Runs.st (fun t' k' => XS.aloadN X0.here hx rfl (hb hby d_jdk_43_method_13_0) rfl rfl k') ?_
  show Runs p.tables e below _ (s₁.setTop (mkF m 1 #[.val (.ref b), .val (.ref d), .unset] [(.ref b)]))
  obtain ⟨cl1_, Ar1_, -, S1_, M1_, -, -⟩ := id V1
  refine Runs.st (X0.arraylength hx (by rw [e0]; exact Ar1_.1) (State.isArrayOf_alike hZ.alike Ar1_.2.1) (g := (mkF m 1 #[.val (.ref b), .val (.ref d), .unset] [(.ref b)])) rfl rfl (hb hby d_jdk_43_method_13_1)) ?_
  rw [len_of S1_ M1_]
  show Runs p.tables e below _ (s₁.setTop (mkF m 2 #[.val (.ref b), .val (.ref d), .unset] [(.int (8 : Int32))]))
  refine Runs.st (fun t' k' => XS.aloadN X0.here hx rfl (hb hby d_jdk_43_method_13_2) rfl rfl k') ?_
  show Runs p.tables e below _ (s₁.setTop (mkF m 3 #[.val (.ref b), .val (.ref d), .unset] [(.ref d), (.int (8 : Int32))]))
  obtain ⟨cl2_, Ar2_, -, S2_, M2_, -, -⟩ := id V2
  refine Runs.st (X0.arraylength hx (by rw [e0]; exact Ar2_.1) (State.isArrayOf_alike hZ.alike Ar2_.2.1) (g := (mkF m 3 #[.val (.ref b), .val (.ref d), .unset] [(.ref d), (.int (8 : Int32))])) rfl rfl (hb hby d_jdk_43_method_13_3)) ?_
  rw [len_of S2_ M2_]
  show Runs p.tables e below _ (s₁.setTop (mkF m 4 #[.val (.ref b), .val (.ref d), .unset] [(.int (7 : Int32)), (.int (8 : Int32))]))
  refine Runs.st (fun t' k' => XS.icmpYes X0.here hx rfl (pc0 := 4) (pc' := 34) rfl (hb hby d_jdk_43_method_13_4) rfl (feq (by decide)).2 (by decide) (by decide) k') ?_
  show Runs p.tables e below _ (s₁.setTop (mkF m 34 #[.val (.ref b), .val (.ref d), .unset] []))
  refine Runs.st (fun t' k' => XS.iconst X0.here hx rfl (hb hby d_jdk_43_method_13_34) k') ?_
  show Runs p.tables e below _ (s₁.setTop (mkF m 35 #[.val (.ref b), .val (.ref d), .unset] [(.int (0 : Int32))]))
  refine Runs.ret X0 hlk (v := (some (.int (0 : Int32)))) (fun h => by rw [hret] at h; cases h) (by decide) (by decide) ?_ (fun fs hr => retN X0 hx (t := .boolean) hret (by simp) (hb hby d_jdk_43_method_13_35) hr)
  try rw [e0]
  exact ⟨rfl, N0, rfl⟩
def Q_rmSE1 (Z : State) (a : Addr) (oo : Addr) (zc : Int32) (b d : Addr) (k1 k2 : ClassId) (h0 : Heap) (n0 : Nat) : Option Value → Heap → List Loc → Prop := (fun v h L => v = some (.int (0 : Int32)) ∧ Fr n0 L ∧ h = h0)
theorem d_jdk_42_method_66_54 : decode jdk_42_method_66_code 54 = .ok (.iconst 0, 1) := by decide +kernel
set_option maxRecDepth 65536 in
set_option maxHeartbeats 40000000 in
theorem rmSE1 (l : Launch) (Z : State) (a0 : Array Value) (hw : ∀ d ∈ tables_1, d.before a0 Z = true) (ws : List Jvm.Cond) (a : Addr) (oo : Addr) (zc : Int32) (b d : Addr) (k1 k2 : ClassId) (h0 : Heap) (n0 : Nat) (Z0 : n0 ≤ h0.size) (Sc : Sta Z h0 "java/lang/String" "COMPACT_STRINGS" "Z" (.int zc)) (hzc : ¬ zc = 0) (Ea : Exa Z h0 a "java/lang/String") (Ca : Fld Z h0 a "java/lang/String" "coder" "B" (.int (0 : Int32))) (Va : Fld Z h0 a "java/lang/String" "value" "[B" (.ref b)) (Eo : Exa Z h0 oo "java/lang/String") (Co : Fld Z h0 oo "java/lang/String" "coder" "B" (.int (0 : Int32))) (Vo : Fld Z h0 oo "java/lang/String" "value" "[B" (.ref d)) (V1 : Arv Z h0 b k1 .byte (8 : Int32) [(.int (80 : Int32)), (.int (111 : Int32)), (.int (115 : Int32)), (.int (116 : Int32)), (.int (80 : Int32)), (.int (97 : Int32)), (.int (105 : Int32)), (.int (100 : Int32))] (.int (0 : Int32))) (V2 : Arv Z h0 d k2 .byte (7 : Int32) [(.int (80 : Int32)), (.int (114 : Int32)), (.int (101 : Int32)), (.int (80 : Int32)), (.int (97 : Int32)), (.int (105 : Int32)), (.int (100 : Int32))] (.int (0 : Int32))) :
    MetFree l (⟨"java/lang/String", "equals", "(Ljava/lang/Object;)Z"⟩ : MethodName) (head1 (Jvm.Cond.code (⟨"java/lang/String", "equals", "(Ljava/lang/Object;)Z"⟩ : MethodName) jdk_42_method_66_code 3 (some .boolean) :: ws) ({ frames := 1, cells := 0, slots := 0, locals := 14 } : Room)) (fun ar_ U => ar_ = #[(.ref a), (.ref oo)] ∧ Z.Warmed39 U.vm ∧ U.heap = h0) (fun _ _ _ _ _ => True) (fun _ U o U' => Phi U (Q_rmSE1 Z a oo zc b d k1 k2 h0 n0) ({ frames := 1, cells := 0, slots := 0, locals := 14 } : Room).cells ({ frames := 1, cells := 0, slots := 0, locals := 14 } : Room).slots o U') := by
  refine MetFree.of_bodySF (plainFor_of_name pn_java_lang_String) hisR ?_
  intro p e s m args below meth c s₁ Bd hml0 hP hK
  obtain ⟨rfl, hZ, hh⟩ := hP
  have hx := Bd.exec
  have hby := Bd.bytes
  have hlk := Bd.notSynchronized
  have hml : c.maxLocals = 3 := hml0
  have hown : s.vm.findClass "java/lang/String" = some m.cls := findClass_of_methodNamed Bd.named
  have hown0 := hown
  have hnm := (name_of_methodNamed Bd.named Bd.method).1
  have hret := Bd.returns
  have X0 : Stand p l e ({ frames := 1, cells := 0, slots := 0, locals := 14 } : Room) s m #[(.ref a), (.ref oo)] below meth c s₁ [] 0 0 := Stand.of_body Bd
  have e0 : s₁.heap = h0 := by rw [← hh, Bd.state]; rfl
  have N0 := Fr.nil n0
  have sz := Z0
  have K := Keep.refl h0 []
  show Runs p.tables e below (Phi s (Q_rmSE1 Z a oo zc b d k1 k2 h0 n0) ({ frames := 1, cells := 0, slots := 0, locals := 14 } : Room).cells ({ frames := 1, cells := 0, slots := 0, locals := 14 } : Room).slots) _
  refine Runs.st (fun t' k' => castTop (ef_jdk_42_method_66_RR m a oo ) k') ?_
  show Runs p.tables e below _ (s₁.setTop (mkF m 0 #[.val (.ref a), .val (.ref oo), .unset] []))
  refine Runs.st (fun t' k' => XS.aloadN X0.here hx rfl (hb hby d_jdk_42_method_66_0) rfl rfl k') ?_
  show Runs p.tables e below _ (s₁.setTop (mkF m 1 #[.val (.ref a), .val (.ref oo), .unset] [(.ref a)]))
  refine Runs.st (fun t' k' => XS.aloadN X0.here hx rfl (hb hby d_jdk_42_method_66_1) rfl rfl k') ?_
  show Runs p.tables e below _ (s₁.setTop (mkF m 2 #[.val (.ref a), .val (.ref oo), .unset] [(.ref oo), (.ref a)]))
  by_cases q1 : a = oo
  · skip
    subst q1
    exact absurd (arv_len V1 (fld_one Vo Va ▸ V2)) (by decide)
  · skip
    refine Runs.st (fun t' k' => Jvm.RoadKit.acmp (g := (mkF m 2 #[.val (.ref a), .val (.ref oo), .unset] [(.ref oo), (.ref a)])) X0 hx rfl rfl rfl (pc0 := 2) (pc' := 7) (same := false) rfl (hb hby d_jdk_42_method_66_2) rfl (decide_eq_false fun q => q1 (Value.ref.inj q)) (by decide) (by decide) k') ?_
    show Runs p.tables e below _ (s₁.setTop (mkF m 7 #[.val (.ref a), .val (.ref oo), .unset] []))
    refine Runs.st (fun t' k' => XS.aloadN X0.here hx rfl (hb hby d_jdk_42_method_66_7) rfl rfl k') ?_
    show Runs p.tables e below _ (s₁.setTop (mkF m 8 #[.val (.ref a), .val (.ref oo), .unset] [(.ref oo)]))
    obtain ⟨T1_, X1_, e1_, st1_⟩ := instY X0 hx hZ hown (hw _ (List.mem_of_getElem? (i := 29) rfl)) e0 (Ins.self Eo) (g := (mkF m 8 #[.val (.ref a), .val (.ref oo), .unset] [(.ref oo)])) rfl rfl (hb hby d_jdk_42_method_66_8)
    refine Runs.st (st1_) ?_
    show Runs p.tables e below _ (T1_.setTop (mkF m 11 #[.val (.ref a), .val (.ref oo), .unset] [(.int (1 : Int32))]))
    refine Runs.st (fun t' k' => XS.ifNo X1_.here hx rfl (hb hby d_jdk_42_method_66_11) rfl ((if0 _ _).trans (feq (by decide)).1) k') ?_
    show Runs p.tables e below _ (T1_.setTop (mkF m 14 #[.val (.ref a), .val (.ref oo), .unset] []))
    refine Runs.st (fun t' k' => XS.aloadN X1_.here hx rfl (hb hby d_jdk_42_method_66_14) rfl rfl k') ?_
    show Runs p.tables e below _ (T1_.setTop (mkF m 15 #[.val (.ref a), .val (.ref oo), .unset] [(.ref oo)]))
    obtain ⟨T2_, X2_, e2_, st2_⟩ := castY X1_ hx hZ hown (hw _ (List.mem_of_getElem? (i := 29) rfl)) e1_ (Ins.self Eo) (g := (mkF m 15 #[.val (.ref a), .val (.ref oo), .unset] [(.ref oo)])) rfl rfl (hb hby d_jdk_42_method_66_15)
    refine Runs.st (st2_) ?_
    show Runs p.tables e below _ (T2_.setTop (mkF m 18 #[.val (.ref a), .val (.ref oo), .unset] [(.ref oo)]))
    refine Runs.st (fun t' k' => XS.astoreN X2_.here hx rfl (hb hby d_jdk_42_method_66_18) rfl rfl (l' := #[.val (.ref a), .val (.ref oo), .val (.ref oo)]) rfl k') ?_
    show Runs p.tables e below _ (T2_.setTop (mkF m 19 #[.val (.ref a), .val (.ref oo), .val (.ref oo)] []))
    obtain ⟨T3_, X3_, e3_, st3_⟩ := getS2 X2_ hx hZ hown (host := "") (Or.inl (hw _ (List.mem_of_getElem? (i := 31) rfl))) Via.refl e2_ Sc (g := (mkF m 19 #[.val (.ref a), .val (.ref oo), .val (.ref oo)] [])) rfl (hb hby d_jdk_42_method_66_19)
    refine Runs.st (st3_) ?_
    show Runs p.tables e below _ (T3_.setTop (mkF m 22 #[.val (.ref a), .val (.ref oo), .val (.ref oo)] [(.int zc)]))
    refine Runs.st (fun t' k' => XS.ifNo X3_.here hx rfl (hb hby d_jdk_42_method_66_22) rfl ((if0 _ _).trans (feq hzc).1) k') ?_
    show Runs p.tables e below _ (T3_.setTop (mkF m 25 #[.val (.ref a), .val (.ref oo), .val (.ref oo)] []))
    refine Runs.st (fun t' k' => XS.aloadN X3_.here hx rfl (hb hby d_jdk_42_method_66_25) rfl rfl k') ?_
    show Runs p.tables e below _ (T3_.setTop (mkF m 26 #[.val (.ref a), .val (.ref oo), .val (.ref oo)] [(.ref a)]))
    obtain ⟨T4_, X4_, e4_, st4_⟩ := getF X3_ hx hZ hown (host := "") (Or.inl (hw _ (List.mem_of_getElem? (i := 32) rfl))) Via.refl e3_ Ca (g := (mkF m 26 #[.val (.ref a), .val (.ref oo), .val (.ref oo)] [(.ref a)])) rfl rfl (hb hby d_jdk_42_method_66_26)
    refine Runs.st (st4_) ?_
    show Runs p.tables e below _ (T4_.setTop (mkF m 29 #[.val (.ref a), .val (.ref oo), .val (.ref oo)] [(.int (0 : Int32))]))
    refine Runs.st (fun t' k' => XS.aloadN X4_.here hx rfl (hb hby d_jdk_42_method_66_29) rfl rfl k') ?_
    show Runs p.tables e below _ (T4_.setTop (mkF m 30 #[.val (.ref a), .val (.ref oo), .val (.ref oo)] [(.ref oo), (.int (0 : Int32))]))
    obtain ⟨T5_, X5_, e5_, st5_⟩ := getF X4_ hx hZ hown (host := "") (Or.inl (hw _ (List.mem_of_getElem? (i := 32) rfl))) Via.refl e4_ Co (g := (mkF m 30 #[.val (.ref a), .val (.ref oo), .val (.ref oo)] [(.ref oo), (.int (0 : Int32))])) rfl rfl (hb hby d_jdk_42_method_66_30)
    refine Runs.st (st5_) ?_
    show Runs p.tables e below _ (T5_.setTop (mkF m 33 #[.val (.ref a), .val (.ref oo), .val (.ref oo)] [(.int (0 : Int32)), (.int (0 : Int32))]))
    refine Runs.st (fun t' k' => XS.icmpNo X5_.here hx rfl (hb hby d_jdk_42_method_66_33) rfl (teq rfl).2 k') ?_
    show Runs p.tables e below _ (T5_.setTop (mkF m 36 #[.val (.ref a), .val (.ref oo), .val (.ref oo)] []))
    refine Runs.st (fun t' k' => XS.aloadN X5_.here hx rfl (hb hby d_jdk_42_method_66_36) rfl rfl k') ?_
    show Runs p.tables e below _ (T5_.setTop (mkF m 37 #[.val (.ref a), .val (.ref oo), .val (.ref oo)] [(.ref a)]))
    obtain ⟨T6_, X6_, e6_, st6_⟩ := getF X5_ hx hZ hown (host := "") (Or.inl (hw _ (List.mem_of_getElem? (i := 33) rfl))) Via.refl e5_ Va (g := (mkF m 37 #[.val (.ref a), .val (.ref oo), .val (.ref oo)] [(.ref a)])) rfl rfl (hb hby d_jdk_42_method_66_37)
    refine Runs.st (st6_) ?_
    show Runs p.tables e below _ (T6_.setTop (mkF m 40 #[.val (.ref a), .val (.ref oo), .val (.ref oo)] [(.ref b)]))
    refine Runs.st (fun t' k' => XS.aloadN X6_.here hx rfl (hb hby d_jdk_42_method_66_40) rfl rfl k') ?_
    show Runs p.tables e below _ (T6_.setTop (mkF m 41 #[.val (.ref a), .val (.ref oo), .val (.ref oo)] [(.ref oo), (.ref b)]))
    obtain ⟨T7_, X7_, e7_, st7_⟩ := getF X6_ hx hZ hown (host := "") (Or.inl (hw _ (List.mem_of_getElem? (i := 33) rfl))) Via.refl e6_ Vo (g := (mkF m 41 #[.val (.ref a), .val (.ref oo), .val (.ref oo)] [(.ref oo), (.ref b)])) rfl rfl (hb hby d_jdk_42_method_66_41)
    refine Runs.st (st7_) ?_
    show Runs p.tables e below _ (T7_.setTop (mkF m 44 #[.val (.ref a), .val (.ref oo), .val (.ref oo)] [(.ref d), (.ref b)]))
    obtain ⟨_, _, ⟨T8_, L8_, k8_, n8_⟩, -, X8_, ⟨Lc8_, hQ8_, l8_, y8_, z8_⟩, st8_⟩ := Jvm.LawKit.callS X7_ hx (y := (⟨"java/lang/StringLatin1", "equals", "([B[B)Z"⟩ : MethodName)) hown (mvT hZ (hw _ (List.mem_of_getElem? (i := 34) rfl))) (mvT hZ (hw _ (List.mem_of_getElem? (i := 35) rfl))) (mvT hZ (hw _ (List.mem_of_getElem? (i := 36) rfl))) (mvT hZ (hw _ (List.mem_of_getElem? (i := 37) rfl))) (by decide) (backOf (W := 0) (rmLE1 l Z a0 hw [] b d k1 k2 h0 n0 sz V1 V2) hZ (hw _ (List.mem_of_getElem? (i := 37) rfl)) (hw _ (List.mem_of_getElem? (i := 36) rfl)) (by decide) (by decide)) (g := (mkF m 44 #[.val (.ref a), .val (.ref oo), .val (.ref oo)] [(.ref d), (.ref b)])) rfl (by rw [hml]; rfl) (argsL := [(.ref b), (.ref d)]) (rest := []) (lenOf pd__28_5bB_5bB_29Z rfl) rfl (by show 2 * 0 + _ ≤ _; exact Nat.le_of_eq rfl) (hb hby d_jdk_42_method_66_44) (fun _ _ => ⟨rfl, e7_, (by decide : 0 + 0 ≤ _), (by decide : 0 + 0 ≤ _)⟩)
    dsimp only [Pt.U, Pt.locs, Pt.cells, Pt.slots] at X8_ l8_ y8_ z8_ st8_ hQ8_
    subst l8_ y8_ z8_
    obtain ⟨rfl, N8_q, e8_⟩ := hQ8_
    have N8_ := Fr.app N0 N8_q
    refine Runs.st (st8_) ?_
    replace X8_ := wider X8_ (c' := 0) (s' := 0) (by decide) (by decide)
    show Runs p.tables e below _ (T8_.setTop (mkF m 47 #[.val (.ref a), .val (.ref oo), .val (.ref oo)] [(.int (0 : Int32))]))
    refine Runs.st (fun t' k' => XS.ifYes X8_.here hx rfl (pc0 := 47) (pc' := 54) rfl (hb hby d_jdk_42_method_66_47) rfl ((if0 _ _).trans (teq rfl).1) (by decide) (by decide) k') ?_
    show Runs p.tables e below _ (T8_.setTop (mkF m 54 #[.val (.ref a), .val (.ref oo), .val (.ref oo)] []))
    refine Runs.st (fun t' k' => XS.iconst X8_.here hx rfl (hb hby d_jdk_42_method_66_54) k') ?_
    show Runs p.tables e below _ (T8_.setTop (mkF m 55 #[.val (.ref a), .val (.ref oo), .val (.ref oo)] [(.int (0 : Int32))]))
    refine Runs.ret X8_ hlk (v := (some (.int (0 : Int32)))) (fun h => by rw [hret] at h; cases h) (by decide) (by decide) ?_ (fun fs hr => retN X8_ hx (t := .boolean) hret (by simp) (hb hby d_jdk_42_method_66_55) hr)
    try rw [e8_]
    exact ⟨rfl, N8_, rfl⟩
def Q_rmSym (Z : State) (a : Addr) (r : Addr) (h0 : Heap) (n0 : Nat) : Option Value → Heap → List Loc → Prop := (fun v h L => v = some (.ref r) ∧ Fr n0 L ∧ h = h0)
theorem pn_com_example_standing_order_standingorder_model_ChargeType : plainName "com/example/standing_order/standingorder/model/ChargeType" = true := by first | (simp [plainName, overriddenIn]; done) | decide +kernel
theorem ef_prog_23_method_4_R (m : MethodId) (x0 : Addr)  : entryFrame m #[(.ref x0)] 1 = mkF m 0 #[.val (.ref x0)] [] := by first | (simp [entryFrame, mkF, argsToLocals, Value.category]; done) | rfl
theorem d_prog_23_method_4_0 : decode prog_23_method_4_code 0 = .ok (.aload_n 0, 1) := by decide +kernel
theorem d_prog_23_method_4_1 : decode prog_23_method_4_code 1 = .ok (.getfield 29, 3) := by decide +kernel
theorem d_prog_23_method_4_4 : decode prog_23_method_4_code 4 = .ok (.areturn, 1) := by decide +kernel
set_option maxRecDepth 65536 in
set_option maxHeartbeats 40000000 in
theorem rmSym (l : Launch) (Z : State) (a0 : Array Value) (hw : ∀ d ∈ tables_1, d.before a0 Z = true) (ws : List Jvm.Cond) (a : Addr) (r : Addr) (h0 : Heap) (n0 : Nat) (Z0 : n0 ≤ h0.size) (F1 : Fld Z h0 a "com/example/standing_order/standingorder/model/ChargeType" "apiName" "Ljava/lang/String;" (.ref r)) :
    MetFree l (⟨"com/example/standing_order/standingorder/model/ChargeType", "apiName", "()Ljava/lang/String;"⟩ : MethodName) (head1 (Jvm.Cond.code (⟨"com/example/standing_order/standingorder/model/ChargeType", "apiName", "()Ljava/lang/String;"⟩ : MethodName) prog_23_method_4_code 1 (some (.object "java/lang/String")) :: ws) ({ frames := 0, cells := 0, slots := 0, locals := 0 } : Room)) (fun ar_ U => ar_ = #[(.ref a)] ∧ Z.Warmed39 U.vm ∧ U.heap = h0) (fun _ _ _ _ _ => True) (fun _ U o U' => Phi U (Q_rmSym Z a r h0 n0) ({ frames := 0, cells := 0, slots := 0, locals := 0 } : Room).cells ({ frames := 0, cells := 0, slots := 0, locals := 0 } : Room).slots o U') := by
  refine MetFree.of_bodySF (plainFor_of_name pn_com_example_standing_order_standingorder_model_ChargeType) hisR ?_
  intro p e s m args below meth c s₁ Bd hml0 hP hK
  obtain ⟨rfl, hZ, hh⟩ := hP
  have hx := Bd.exec
  have hby := Bd.bytes
  have hlk := Bd.notSynchronized
  have hml : c.maxLocals = 1 := hml0
  have hown : s.vm.findClass "com/example/standing_order/standingorder/model/ChargeType" = some m.cls := findClass_of_methodNamed Bd.named
  have hown0 := hown
  have hnm := (name_of_methodNamed Bd.named Bd.method).1
  have hret := Bd.returns
  have X0 : Stand p l e ({ frames := 0, cells := 0, slots := 0, locals := 0 } : Room) s m #[(.ref a)] below meth c s₁ [] 0 0 := Stand.of_body Bd
  have e0 : s₁.heap = h0 := by rw [← hh, Bd.state]; rfl
  have N0 := Fr.nil n0
  have sz := Z0
  have K := Keep.refl h0 []
  show Runs p.tables e below (Phi s (Q_rmSym Z a r h0 n0) ({ frames := 0, cells := 0, slots := 0, locals := 0 } : Room).cells ({ frames := 0, cells := 0, slots := 0, locals := 0 } : Room).slots) _
  refine Runs.st (fun t' k' => castTop (ef_prog_23_method_4_R m a ) k') ?_
  show Runs p.tables e below _ (s₁.setTop (mkF m 0 #[.val (.ref a)] []))
  refine Runs.st (fun t' k' => XS.aloadN X0.here hx rfl (hb hby d_prog_23_method_4_0) rfl rfl k') ?_
  show Runs p.tables e below _ (s₁.setTop (mkF m 1 #[.val (.ref a)] [(.ref a)]))
  obtain ⟨T1_, X1_, e1_, st1_⟩ := getF X0 hx hZ hown (host := "") (Or.inl (hw _ (List.mem_of_getElem? (i := 14) rfl))) Via.refl e0 F1 (g := (mkF m 1 #[.val (.ref a)] [(.ref a)])) rfl rfl (hb hby d_prog_23_method_4_1)
  refine Runs.st (st1_) ?_
  show Runs p.tables e below _ (T1_.setTop (mkF m 4 #[.val (.ref a)] [(.ref r)]))
  refine Runs.ret X1_ hlk (v := (some (.ref r))) (fun h => by rw [hret] at h; cases h) (by decide) (by decide) ?_ (fun fs hr => retOut X1_ hx hret rfl (Or.inr (Or.inr (Or.inr (Or.inr ⟨rfl, rfl, rfl⟩)))) (hb hby d_prog_23_method_4_4) hr)
  try rw [e1_]
  exact ⟨rfl, N0, rfl⟩
def Q_rmHas (Z : State) (a : Addr) (oe : Addr) (r : Int32) (h0 : Heap) (n0 : Nat) : Option Value → Heap → List Loc → Prop := (fun v h L => v = some (.int r) ∧ Fr n0 L ∧ h = h0)
theorem ef_prog_23_method_5_R (m : MethodId) (x0 : Addr)  : entryFrame m #[(.ref x0)] 1 = mkF m 0 #[.val (.ref x0)] [] := by first | (simp [entryFrame, mkF, argsToLocals, Value.category]; done) | rfl
theorem d_prog_23_method_5_0 : decode prog_23_method_5_code 0 = .ok (.aload_n 0, 1) := by decide +kernel
theorem d_prog_23_method_5_1 : decode prog_23_method_5_code 1 = .ok (.getstatic 3, 3) := by decide +kernel
theorem d_prog_23_method_5_4 : decode prog_23_method_5_code 4 = .ok (.if_acmp .ne 7, 3) := by decide +kernel
theorem d_prog_23_method_5_7 : decode prog_23_method_5_code 7 = .ok (.iconst 1, 1) := by decide +kernel
theorem d_prog_23_method_5_8 : decode prog_23_method_5_code 8 = .ok (.goto 4, 3) := by decide +kernel
theorem d_prog_23_method_5_12 : decode prog_23_method_5_code 12 = .ok (.ireturn, 1) := by decide +kernel
theorem d_prog_23_method_5_11 : decode prog_23_method_5_code 11 = .ok (.iconst 0, 1) := by decide +kernel
set_option maxRecDepth 65536 in
set_option maxHeartbeats 40000000 in
theorem rmHas (l : Launch) (Z : State) (a0 : Array Value) (hw : ∀ d ∈ tables_1, d.before a0 Z = true) (ws : List Jvm.Cond) (a : Addr) (oe : Addr) (r : Int32) (h0 : Heap) (n0 : Nat) (Z0 : n0 ≤ h0.size) (S0 : Sta Z h0 "com/example/standing_order/standingorder/model/ChargeType" "PRE_PAID" "Lcom/example/standing_order/standingorder/model/ChargeType;" (.ref oe)) (hr : (a = oe ∧ r = (1 : Int32)) ∨ (a ≠ oe ∧ r = (0 : Int32))) :
    MetFree l (⟨"com/example/standing_order/standingorder/model/ChargeType", "hasExpiry", "()Z"⟩ : MethodName) (head1 (Jvm.Cond.code (⟨"com/example/standing_order/standingorder/model/ChargeType", "hasExpiry", "()Z"⟩ : MethodName) prog_23_method_5_code 1 (some .boolean) :: ws) ({ frames := 0, cells := 0, slots := 0, locals := 0 } : Room)) (fun ar_ U => ar_ = #[(.ref a)] ∧ Z.Warmed39 U.vm ∧ U.heap = h0) (fun _ _ _ _ _ => True) (fun _ U o U' => Phi U (Q_rmHas Z a oe r h0 n0) ({ frames := 0, cells := 0, slots := 0, locals := 0 } : Room).cells ({ frames := 0, cells := 0, slots := 0, locals := 0 } : Room).slots o U') := by
  refine MetFree.of_bodySF (plainFor_of_name pn_com_example_standing_order_standingorder_model_ChargeType) hisR ?_
  intro p e s m args below meth c s₁ Bd hml0 hP hK
  obtain ⟨rfl, hZ, hh⟩ := hP
  have hx := Bd.exec
  have hby := Bd.bytes
  have hlk := Bd.notSynchronized
  have hml : c.maxLocals = 1 := hml0
  have hown : s.vm.findClass "com/example/standing_order/standingorder/model/ChargeType" = some m.cls := findClass_of_methodNamed Bd.named
  have hown0 := hown
  have hnm := (name_of_methodNamed Bd.named Bd.method).1
  have hret := Bd.returns
  have X0 : Stand p l e ({ frames := 0, cells := 0, slots := 0, locals := 0 } : Room) s m #[(.ref a)] below meth c s₁ [] 0 0 := Stand.of_body Bd
  have e0 : s₁.heap = h0 := by rw [← hh, Bd.state]; rfl
  have N0 := Fr.nil n0
  have sz := Z0
  have K := Keep.refl h0 []
  show Runs p.tables e below (Phi s (Q_rmHas Z a oe r h0 n0) ({ frames := 0, cells := 0, slots := 0, locals := 0 } : Room).cells ({ frames := 0, cells := 0, slots := 0, locals := 0 } : Room).slots) _
  refine Runs.st (fun t' k' => castTop (ef_prog_23_method_5_R m a ) k') ?_
  show Runs p.tables e below _ (s₁.setTop (mkF m 0 #[.val (.ref a)] []))
  refine Runs.st (fun t' k' => XS.aloadN X0.here hx rfl (hb hby d_prog_23_method_5_0) rfl rfl k') ?_
  show Runs p.tables e below _ (s₁.setTop (mkF m 1 #[.val (.ref a)] [(.ref a)]))
  obtain ⟨T1_, X1_, e1_, st1_⟩ := getS2 X0 hx hZ hown (host := "") (Or.inl (hw _ (List.mem_of_getElem? (i := 8) rfl))) Via.refl e0 S0 (g := (mkF m 1 #[.val (.ref a)] [(.ref a)])) rfl (hb hby d_prog_23_method_5_1)
  refine Runs.st (st1_) ?_
  show Runs p.tables e below _ (T1_.setTop (mkF m 4 #[.val (.ref a)] [(.ref oe), (.ref a)]))
  rcases hr with ⟨q, rfl⟩ | ⟨q, rfl⟩
  · skip
    refine Runs.st (fun t' k' => Jvm.RoadKit.acmp (g := (mkF m 4 #[.val (.ref a)] [(.ref oe), (.ref a)])) X1_ hx rfl rfl rfl (pc0 := 4) (pc' := 7) (same := true) rfl (hb hby d_prog_23_method_5_4) rfl (decide_eq_true (congrArg Value.ref q)) (by decide) (by decide) k') ?_
    show Runs p.tables e below _ (T1_.setTop (mkF m 7 #[.val (.ref a)] []))
    refine Runs.st (fun t' k' => XS.iconst X1_.here hx rfl (hb hby d_prog_23_method_5_7) k') ?_
    show Runs p.tables e below _ (T1_.setTop (mkF m 8 #[.val (.ref a)] [(.int (1 : Int32))]))
    refine Runs.st (fun t' k' => XS.goto X1_.here hx rfl (pc0 := 8) (pc' := 12) rfl (hb hby d_prog_23_method_5_8) (by decide) (by decide) k') ?_
    show Runs p.tables e below _ (T1_.setTop (mkF m 12 #[.val (.ref a)] [(.int (1 : Int32))]))
    refine Runs.ret X1_ hlk (v := (some (.int (1 : Int32)))) (fun h => by rw [hret] at h; cases h) (by decide) (by decide) ?_ (fun fs hr => retN X1_ hx (t := .boolean) hret (by simp) (hb hby d_prog_23_method_5_12) hr)
    try rw [e1_]
    exact ⟨rfl, N0, rfl⟩
  · skip
    refine Runs.st (fun t' k' => Jvm.RoadKit.acmp (g := (mkF m 4 #[.val (.ref a)] [(.ref oe), (.ref a)])) X1_ hx rfl rfl rfl (pc0 := 4) (pc' := 11) (same := false) rfl (hb hby d_prog_23_method_5_4) rfl (decide_eq_false fun u => q (Value.ref.inj u)) (by decide) (by decide) k') ?_
    show Runs p.tables e below _ (T1_.setTop (mkF m 11 #[.val (.ref a)] []))
    refine Runs.st (fun t' k' => XS.iconst X1_.here hx rfl (hb hby d_prog_23_method_5_11) k') ?_
    show Runs p.tables e below _ (T1_.setTop (mkF m 12 #[.val (.ref a)] [(.int (0 : Int32))]))
    refine Runs.ret X1_ hlk (v := (some (.int (0 : Int32)))) (fun h => by rw [hret] at h; cases h) (by decide) (by decide) ?_ (fun fs hr => retN X1_ hx (t := .boolean) hret (by simp) (hb hby d_prog_23_method_5_12) hr)
    try rw [e1_]
    exact ⟨rfl, N0, rfl⟩
theorem pn_com_example_standing_order_standingorder_model_ChargeTypeHasExpiryPinLaw : plainName "com/example/standing_order/standingorder/model/ChargeTypeHasExpiryPinLaw" = true := by first | (simp [plainName, overriddenIn]; done) | decide +kernel
theorem ef_0_I (m : MethodId) (x0 : Int32)  : entryFrame m #[(.int x0)] maxLocals = mkF m 0 #[.val (.int x0), .unset, .unset, .unset, .unset] [] := by first | (simp [entryFrame, mkF, argsToLocals, Value.category, maxLocals]; done) | rfl
theorem pd__28_29Z : parseMethodDescriptor "()Z" = some ⟨[], some .boolean⟩ := by decide +kernel
theorem pd__28_29Ljava_2flang_2fString_3b : parseMethodDescriptor "()Ljava/lang/String;" = some ⟨[], some (.object "java/lang/String")⟩ := by decide +kernel
theorem pd__28Ljava_2flang_2fObject_3b_29Z : parseMethodDescriptor "(Ljava/lang/Object;)Z" = some ⟨[(.object "java/lang/Object")], some .boolean⟩ := by decide +kernel
set_option maxRecDepth 65536 in
set_option maxHeartbeats 40000000 in
theorem rm0 (l : Launch) (Z : State) (a0 : Array Value) (hw : ∀ d ∈ tables_1, d.before a0 Z = true) (ws : List Jvm.Cond) (i0 : Int32) (oe op s0 s1 v0 v1 : Addr) (k0_ k1_ : ClassId) (zc : Int32) (h0 : Heap) (n0 : Nat) (Z0 : n0 ≤ h0.size) (old : Old Z n0 h0) (hn0 : n0 = h0.size) (hheld : Jvm.Lit.constHeld Z "com/example/standing_order/standingorder/model/ChargeTypeHasExpiryPinLaw" 24) (hcw : Jvm.Lit.compactW.before a0 Z = true) (Sc : Sta Z Z.heap "java/lang/String" "COMPACT_STRINGS" "Z" (.int zc)) (hzc : ¬ zc = 0) (S0 : Sta Z Z.heap "com/example/standing_order/standingorder/model/ChargeType" "PRE_PAID" "Lcom/example/standing_order/standingorder/model/ChargeType;" (.ref oe)) (E0 : Exa Z Z.heap oe "com/example/standing_order/standingorder/model/ChargeType") (O0 : Fld Z Z.heap oe "java/lang/Enum" "ordinal" "I" (.int (0 : Int32))) (Fs0 : Fld Z Z.heap oe "com/example/standing_order/standingorder/model/ChargeType" "apiName" "Ljava/lang/String;" (.ref s0)) (Es0 : Exa Z Z.heap s0 "java/lang/String") (Fc0 : Fld Z Z.heap s0 "java/lang/String" "coder" "B" (.int (0 : Int32))) (Fv0 : Fld Z Z.heap s0 "java/lang/String" "value" "[B" (.ref v0)) (V0 : Arv Z Z.heap v0 k0_ .byte (7 : Int32) [(.int (80 : Int32)), (.int (114 : Int32)), (.int (101 : Int32)), (.int (80 : Int32)), (.int (97 : Int32)), (.int (105 : Int32)), (.int (100 : Int32))] (.int (0 : Int32))) (S1 : Sta Z Z.heap "com/example/standing_order/standingorder/model/ChargeType" "POST_PAID" "Lcom/example/standing_order/standingorder/model/ChargeType;" (.ref op)) (E1 : Exa Z Z.heap op "com/example/standing_order/standingorder/model/ChargeType") (O1 : Fld Z Z.heap op "java/lang/Enum" "ordinal" "I" (.int (1 : Int32))) (Fs1 : Fld Z Z.heap op "com/example/standing_order/standingorder/model/ChargeType" "apiName" "Ljava/lang/String;" (.ref s1)) (Es1 : Exa Z Z.heap s1 "java/lang/String") (Fc1 : Fld Z Z.heap s1 "java/lang/String" "coder" "B" (.int (0 : Int32))) (Fv1 : Fld Z Z.heap s1 "java/lang/String" "value" "[B" (.ref v1)) (V1 : Arv Z Z.heap v1 k1_ .byte (8 : Int32) [(.int (80 : Int32)), (.int (111 : Int32)), (.int (115 : Int32)), (.int (116 : Int32)), (.int (80 : Int32)), (.int (97 : Int32)), (.int (105 : Int32)), (.int (100 : Int32))] (.int (0 : Int32)))  :
    MetFree l x (head1 (Jvm.Cond.code x code maxLocals ret :: ws) room_1) (fun ar_ U => ar_ = #[(.int i0)] ∧ U = Z ∧ U.heap = h0) (fun _ _ _ _ _ => True) (fun _ U o U' => PhiW U (fun v h L => v = some (.int 1) ∧ Fr n0 L) room_1.cells room_1.slots o U') := by
  refine MetFree.of_bodySF (plainFor_of_name pn_com_example_standing_order_standingorder_model_ChargeTypeHasExpiryPinLaw) hisR ?_
  intro p e s m args below meth c s₁ Bd hml0 hP hK
  obtain ⟨rfl, hsZ, hh⟩ := hP
  have hZ : Z.Warmed39 s.vm := hsZ ▸ State.Warmed39.refl _
  have hkeep : ∀ (b : Addr) (cl : Cell), Z.heap[b]? = some cl → s.heap[b]? = some cl := fun b cl q => by rw [hsZ]; exact q
  have IB0 : IB Z s.vm [] := by rw [hsZ]; exact IB.start
  have hsn : n0 = s.heap.size := hn0.trans (congrArg Array.size hh.symm)
  have hS : s.Since s.vm h0.size := (State.WarmedH.refl s).since _
  have hk := Nat.le_refl h0.size
  have hZ0 := hZ
  have hx := Bd.exec
  have hby := Bd.bytes
  have hlk := Bd.notSynchronized
  have hml : c.maxLocals = 5 := hml0
  have hown : s.vm.findClass "com/example/standing_order/standingorder/model/ChargeTypeHasExpiryPinLaw" = some m.cls := findClass_of_methodNamed Bd.named
  have hown0 := hown
  have hnm := (name_of_methodNamed Bd.named Bd.method).1
  have hret := Bd.returns
  have X0 : Stand p l e room_1 s m #[(.int i0)] below meth c s₁ [] 0 0 := Stand.of_body Bd
  have e0 : s₁.heap = h0 := by rw [← hh, Bd.state]; rfl
  have N0 := Fr.nil n0
  have sz := Z0
  have K := Keep.refl h0 []
  show Runs p.tables e below (PhiW s (fun v h L => v = some (.int 1) ∧ Fr n0 L) room_1.cells room_1.slots) _
  refine Runs.st (fun t' k' => castTop (ef_0_I m i0 ) k') ?_
  show Runs p.tables e below _ (s₁.setTop (mkF m 0 #[.val (.int i0), .unset, .unset, .unset, .unset] []))
  have neq : op ≠ oe := O1.ne O0 (by simp)
  refine Runs.st (fun t' k' => XS.iloadN X0.here hx rfl (hb hby at_0) rfl k') ?_
  show Runs p.tables e below _ (s₁.setTop (mkF m 1 #[.val (.int i0), .unset, .unset, .unset, .unset] [(.int i0)]))
  refine Runs.st (fun t' k' => XS.iconst X0.here hx rfl (hb hby at_1) k') ?_
  show Runs p.tables e below _ (s₁.setTop (mkF m 2 #[.val (.int i0), .unset, .unset, .unset, .unset] [(.int (1 : Int32)), (.int i0)]))
  refine Runs.st (fun t' k' => XS.iand X0.here hx rfl (hb hby at_2) rfl k') ?_
  show Runs p.tables e below _ (s₁.setTop (mkF m 3 #[.val (.int i0), .unset, .unset, .unset, .unset] [(.int (i0 &&& (1 : Int32)))]))
  by_cases c3 : (i0 &&& (1 : Int32)) = (0 : Int32)
  · skip
    refine Runs.st (fun t' k' => XS.ifNo X0.here hx rfl (hb hby at_3) rfl ((if0 _ _).trans (teq c3).2) k') ?_
    show Runs p.tables e below _ (s₁.setTop (mkF m 6 #[.val (.int i0), .unset, .unset, .unset, .unset] []))
    refine Runs.st (fun t' k' => XS.iconst X0.here hx rfl (hb hby at_6) k') ?_
    show Runs p.tables e below _ (s₁.setTop (mkF m 7 #[.val (.int i0), .unset, .unset, .unset, .unset] [(.int (1 : Int32))]))
    refine Runs.st (fun t' k' => XS.goto X0.here hx rfl (pc0 := 7) (pc' := 11) rfl (hb hby at_7) (by decide) (by decide) k') ?_
    show Runs p.tables e below _ (s₁.setTop (mkF m 11 #[.val (.int i0), .unset, .unset, .unset, .unset] [(.int (1 : Int32))]))
    refine Runs.st (fun t' k' => XS.istoreN X0.here hx rfl (hb hby at_11) rfl (l' := #[.val (.int i0), .val (.int (1 : Int32)), .unset, .unset, .unset]) rfl k') ?_
    show Runs p.tables e below _ (s₁.setTop (mkF m 12 #[.val (.int i0), .val (.int (1 : Int32)), .unset, .unset, .unset] []))
    refine Runs.st (fun t' k' => XS.iloadN X0.here hx rfl (hb hby at_12) rfl k') ?_
    show Runs p.tables e below _ (s₁.setTop (mkF m 13 #[.val (.int i0), .val (.int (1 : Int32)), .unset, .unset, .unset] [(.int (1 : Int32))]))
    refine Runs.st (fun t' k' => XS.ifNo X0.here hx rfl (hb hby at_13) rfl ((if0 _ _).trans (feq (by decide)).1) k') ?_
    show Runs p.tables e below _ (s₁.setTop (mkF m 16 #[.val (.int i0), .val (.int (1 : Int32)), .unset, .unset, .unset] []))
    obtain ⟨T1_, X1_, e1_, st1_⟩ := getS2 X0 hx hZ hown (host := "") (Or.inl (hw _ (List.mem_of_getElem? (i := 0) rfl))) Via.refl e0 (S0.ext old.2) (g := (mkF m 16 #[.val (.int i0), .val (.int (1 : Int32)), .unset, .unset, .unset] [])) rfl (hb hby at_16)
    refine Runs.st (st1_) ?_
    show Runs p.tables e below _ (T1_.setTop (mkF m 19 #[.val (.int i0), .val (.int (1 : Int32)), .unset, .unset, .unset] [(.ref oe)]))
    refine Runs.st (fun t' k' => XS.goto X1_.here hx rfl (pc0 := 19) (pc' := 25) rfl (hb hby at_19) (by decide) (by decide) k') ?_
    show Runs p.tables e below _ (T1_.setTop (mkF m 25 #[.val (.int i0), .val (.int (1 : Int32)), .unset, .unset, .unset] [(.ref oe)]))
    refine Runs.st (fun t' k' => XS.astoreN X1_.here hx rfl (hb hby at_25) rfl rfl (l' := #[.val (.int i0), .val (.int (1 : Int32)), .val (.ref oe), .unset, .unset]) rfl k') ?_
    show Runs p.tables e below _ (T1_.setTop (mkF m 26 #[.val (.int i0), .val (.int (1 : Int32)), .val (.ref oe), .unset, .unset] []))
    refine Runs.st (fun t' k' => XS.aloadN X1_.here hx rfl (hb hby at_26) rfl rfl k') ?_
    show Runs p.tables e below _ (T1_.setTop (mkF m 27 #[.val (.int i0), .val (.int (1 : Int32)), .val (.ref oe), .unset, .unset] [(.ref oe)]))
    obtain ⟨cq2_, kq2_, q2_a, q2_b, q2_c⟩ := isOf hZ e1_ (E0.ext old.2)
    obtain ⟨_, _, ⟨T2_, L2_, k2_, n2_⟩, -, X2_, ⟨Lc2_, hQ2_, l2_, y2_, z2_⟩, st2_⟩ := X1_.virtualBack hx (y := (⟨"com/example/standing_order/standingorder/model/ChargeType", "hasExpiry", "()Z"⟩ : MethodName)) (z := (⟨"com/example/standing_order/standingorder/model/ChargeType", "hasExpiry", "()Z"⟩ : MethodName)) hown (mvT hZ (hw _ (List.mem_of_getElem? (i := 3) rfl))) (mvT hZ (hw _ (List.mem_of_getElem? (i := 4) rfl))) (notFace_of_selects (args := #[]) (mvT hZ (hw _ (List.mem_of_getElem? (i := 6) rfl)))) (mvT hZ (hw _ (List.mem_of_getElem? (i := 6) rfl))) (mvT hZ (hw _ (List.mem_of_getElem? (i := 5) rfl))) (by decide) (backOf (W := 0) (rmHas l Z a0 hw [] oe oe (1 : Int32) h0 n0 sz (S0.ext old.2) (Or.inl ⟨rfl, rfl⟩)) hZ (hw _ (List.mem_of_getElem? (i := 7) rfl)) (hw _ (List.mem_of_getElem? (i := 1) rfl)) (by decide) (by decide)) q2_a q2_c (g := (mkF m 27 #[.val (.int i0), .val (.int (1 : Int32)), .val (.ref oe), .unset, .unset] [(.ref oe)])) rfl (by rw [hml]; rfl) (Steps.refl _) (argsL := []) (rest := []) (lenOf pd__28_29Z rfl) rfl (by show 2 * 0 + _ ≤ _; exact Nat.le_of_eq rfl) (hb hby at_27) (fun _ _ => ⟨rfl, e1_, (by decide : 0 + 0 ≤ _), (by decide : 0 + 0 ≤ _)⟩)
    dsimp only [Pt.U, Pt.locs, Pt.cells, Pt.slots] at X2_ l2_ y2_ z2_ st2_ hQ2_
    subst l2_ y2_ z2_
    obtain ⟨rfl, N2_q, e2_⟩ := hQ2_
    have N2_ := Fr.app N0 N2_q
    refine Runs.tr st2_ ?_
    replace X2_ := wider X2_ (c' := 0) (s' := 0) (by decide) (by decide)
    show Runs p.tables e below _ (T2_.setTop (mkF m 30 #[.val (.int i0), .val (.int (1 : Int32)), .val (.ref oe), .unset, .unset] [(.int (1 : Int32))]))
    refine Runs.st (fun t' k' => XS.istoreN X2_.here hx rfl (hb hby at_30) rfl (l' := #[.val (.int i0), .val (.int (1 : Int32)), .val (.ref oe), .val (.int (1 : Int32)), .unset]) rfl k') ?_
    show Runs p.tables e below _ (T2_.setTop (mkF m 31 #[.val (.int i0), .val (.int (1 : Int32)), .val (.ref oe), .val (.int (1 : Int32)), .unset] []))
    refine Runs.st (fun t' k' => XS.aloadN X2_.here hx rfl (hb hby at_31) rfl rfl k') ?_
    show Runs p.tables e below _ (T2_.setTop (mkF m 32 #[.val (.int i0), .val (.int (1 : Int32)), .val (.ref oe), .val (.int (1 : Int32)), .unset] [(.ref oe)]))
    obtain ⟨cq3_, kq3_, q3_a, q3_b, q3_c⟩ := isOf hZ e2_ (E0.ext old.2)
    obtain ⟨_, _, ⟨T3_, L3_, k3_, n3_⟩, -, X3_, ⟨Lc3_, hQ3_, l3_, y3_, z3_⟩, st3_⟩ := X2_.virtualBack hx (y := (⟨"com/example/standing_order/standingorder/model/ChargeType", "apiName", "()Ljava/lang/String;"⟩ : MethodName)) (z := (⟨"com/example/standing_order/standingorder/model/ChargeType", "apiName", "()Ljava/lang/String;"⟩ : MethodName)) hown (mvT hZ (hw _ (List.mem_of_getElem? (i := 9) rfl))) (mvT hZ (hw _ (List.mem_of_getElem? (i := 10) rfl))) (notFace_of_selects (args := #[]) (mvT hZ (hw _ (List.mem_of_getElem? (i := 12) rfl)))) (mvT hZ (hw _ (List.mem_of_getElem? (i := 12) rfl))) (mvT hZ (hw _ (List.mem_of_getElem? (i := 11) rfl))) (by decide) (backOf (W := 0) (rmSym l Z a0 hw [] oe s0 h0 n0 sz (Fs0.ext old.2)) hZ (hw _ (List.mem_of_getElem? (i := 13) rfl)) (hw _ (List.mem_of_getElem? (i := 1) rfl)) (by decide) (by decide)) q3_a q3_c (g := (mkF m 32 #[.val (.int i0), .val (.int (1 : Int32)), .val (.ref oe), .val (.int (1 : Int32)), .unset] [(.ref oe)])) rfl (by rw [hml]; rfl) (Steps.refl _) (argsL := []) (rest := []) (lenOf pd__28_29Ljava_2flang_2fString_3b rfl) rfl (by show 2 * 0 + _ ≤ _; exact Nat.le_of_eq rfl) (hb hby at_32) (fun _ _ => ⟨rfl, e2_, (by decide : 0 + 0 ≤ _), (by decide : 0 + 0 ≤ _)⟩)
    dsimp only [Pt.U, Pt.locs, Pt.cells, Pt.slots] at X3_ l3_ y3_ z3_ st3_ hQ3_
    subst l3_ y3_ z3_
    obtain ⟨rfl, N3_q, e3_⟩ := hQ3_
    have N3_ := Fr.app N2_ N3_q
    refine Runs.tr st3_ ?_
    replace X3_ := wider X3_ (c' := 0) (s' := 0) (by decide) (by decide)
    show Runs p.tables e below _ (T3_.setTop (mkF m 35 #[.val (.int i0), .val (.int (1 : Int32)), .val (.ref oe), .val (.int (1 : Int32)), .unset] [(.ref s0)]))
    have wS4_ : ∀ a ∈ Bundle.stringAtoms, a.before a0 Z = true := by
      intro a ha
      simp only [Bundle.stringAtoms, Bundle.sN, List.mem_cons, List.not_mem_nil, or_false] at ha
      rcases ha with rfl | rfl | rfl | rfl | rfl | rfl | rfl
      · exact (hw _ (List.mem_of_getElem? (i := 17) rfl))
      · exact (hw _ (List.mem_of_getElem? (i := 18) rfl))
      · exact (hw _ (List.mem_of_getElem? (i := 19) rfl))
      · exact (hw _ (List.mem_of_getElem? (i := 20) rfl))
      · exact (hw _ (List.mem_of_getElem? (i := 21) rfl))
      · exact (hw _ (List.mem_of_getElem? (i := 22) rfl))
      · exact (hw _ (List.mem_of_getElem? (i := 23) rfl))
    obtain ⟨lt, T4_, h4_, j4_, v_lt, kc4_, X4_, e4_, E4_, hS4_, hk4_, hZ4_, hown4_, E_lt, Fc_lt, Fv_lt, V_lt, -, -, IB4_, st4_⟩ := ldcSV (s := s) (vm0 := s.vm) (X := (show Stand p l e room_1 (s.setVm s.vm) m _ below meth c _ _ _ _ from X3_)) hx hZ hown (hw _ (List.mem_of_getElem? (i := 16) rfl)) wS4_ e3_ hS hk (hsn ▸ N3_) hkeep IB0 (by decide) (hheld) (hcw) (vs := [(.int (80 : Int32)), (.int (114 : Int32)), (.int (101 : Int32)), (.int (80 : Int32)), (.int (97 : Int32)), (.int (105 : Int32)), (.int (100 : Int32))]) (z := (7 : Int32)) ⟨by decide, by first | rfl | decide +kernel⟩ (by decide) (by decide) (g := (mkF m 35 #[.val (.int i0), .val (.int (1 : Int32)), .val (.ref oe), .val (.int (1 : Int32)), .unset] [(.ref s0)])) rfl (hb hby at_35) (n := 28) (by decide) (by decide) (by decide) (by decide)
    refine Runs.st st4_ ?_
    replace old := old.ext E4_
    replace sz := Nat.le_trans sz E4_.1
    replace K := K.ext E4_
    replace hk := Nat.le_trans hk E4_.1
    have hS := hS4_
    have hk := hk4_
    have hZ := hZ4_
    have hown := hown4_
    show Runs p.tables e below _ (T4_.setTop (mkF m 37 #[.val (.int i0), .val (.int (1 : Int32)), .val (.ref oe), .val (.int (1 : Int32)), .unset] [(.ref lt), (.ref s0)]))
    obtain ⟨cq5_, kq5_, q5_a, q5_b, q5_c⟩ := isOf hZ e4_ (Es0.ext old.2)
    obtain ⟨_, _, ⟨T5_, L5_, k5_, n5_⟩, -, X5_, ⟨Lc5_, hQ5_, l5_, y5_, z5_⟩, st5_⟩ := X4_.virtualBack hx (y := (⟨"java/lang/String", "equals", "(Ljava/lang/Object;)Z"⟩ : MethodName)) (z := (⟨"java/lang/String", "equals", "(Ljava/lang/Object;)Z"⟩ : MethodName)) hown (mvT hZ (hw _ (List.mem_of_getElem? (i := 24) rfl))) (mvT hZ (hw _ (List.mem_of_getElem? (i := 25) rfl))) (notFace_of_selects (args := #[]) (mvT hZ (hw _ (List.mem_of_getElem? (i := 27) rfl)))) (mvT hZ (hw _ (List.mem_of_getElem? (i := 27) rfl))) (mvT hZ (hw _ (List.mem_of_getElem? (i := 26) rfl))) (by decide) (backOf (W := 0) (rmSE0 l Z a0 hw [] s0 lt zc v0 v_lt k0_ _ h4_ n0 sz (Sc.ext old.2) hzc (Es0.ext old.2) (Fc0.ext old.2) (Fv0.ext old.2) E_lt Fc_lt Fv_lt (V0.ext old.2) V_lt) hZ (hw _ (List.mem_of_getElem? (i := 28) rfl)) (hw _ (List.mem_of_getElem? (i := 17) rfl)) (by decide) (by decide)) q5_a q5_c (g := (mkF m 37 #[.val (.int i0), .val (.int (1 : Int32)), .val (.ref oe), .val (.int (1 : Int32)), .unset] [(.ref lt), (.ref s0)])) rfl (by rw [hml]; rfl) (Steps.refl _) (argsL := [(.ref lt)]) (rest := []) (lenOf pd__28Ljava_2flang_2fObject_3b_29Z rfl) rfl (by show 2 * 0 + _ ≤ _; exact Nat.le_of_eq rfl) (hb hby at_37) (fun _ _ => ⟨rfl, e4_, (by decide : 2 + 0 ≤ _), (by decide : 32 + 0 ≤ _)⟩)
    dsimp only [Pt.U, Pt.locs, Pt.cells, Pt.slots] at X5_ l5_ y5_ z5_ st5_ hQ5_
    subst l5_ y5_ z5_
    obtain ⟨rfl, N5_q, e5_⟩ := hQ5_
    have N5_ := Fr.app N3_ N5_q
    refine Runs.tr st5_ ?_
    replace X5_ := wider X5_ (c' := 2) (s' := 32) (by decide) (by decide)
    show Runs p.tables e below _ (T5_.setTop (mkF m 40 #[.val (.int i0), .val (.int (1 : Int32)), .val (.ref oe), .val (.int (1 : Int32)), .unset] [(.int (1 : Int32))]))
    refine Runs.st (fun t' k' => XS.istore X5_.here hx rfl (hb hby at_40) rfl (l' := #[.val (.int i0), .val (.int (1 : Int32)), .val (.ref oe), .val (.int (1 : Int32)), .val (.int (1 : Int32))]) rfl k') ?_
    show Runs p.tables e below _ (T5_.setTop (mkF m 42 #[.val (.int i0), .val (.int (1 : Int32)), .val (.ref oe), .val (.int (1 : Int32)), .val (.int (1 : Int32))] []))
    refine Runs.st (fun t' k' => XS.iloadN X5_.here hx rfl (hb hby at_42) rfl k') ?_
    show Runs p.tables e below _ (T5_.setTop (mkF m 43 #[.val (.int i0), .val (.int (1 : Int32)), .val (.ref oe), .val (.int (1 : Int32)), .val (.int (1 : Int32))] [(.int (1 : Int32))]))
    refine Runs.st (fun t' k' => XS.iloadN X5_.here hx rfl (hb hby at_43) rfl k') ?_
    show Runs p.tables e below _ (T5_.setTop (mkF m 44 #[.val (.int i0), .val (.int (1 : Int32)), .val (.ref oe), .val (.int (1 : Int32)), .val (.int (1 : Int32))] [(.int (1 : Int32)), (.int (1 : Int32))]))
    refine Runs.st (fun t' k' => XS.icmpNo X5_.here hx rfl (hb hby at_44) rfl (teq rfl).2 k') ?_
    show Runs p.tables e below _ (T5_.setTop (mkF m 47 #[.val (.int i0), .val (.int (1 : Int32)), .val (.ref oe), .val (.int (1 : Int32)), .val (.int (1 : Int32))] []))
    refine Runs.st (fun t' k' => XS.iloadN X5_.here hx rfl (hb hby at_47) rfl k') ?_
    show Runs p.tables e below _ (T5_.setTop (mkF m 48 #[.val (.int i0), .val (.int (1 : Int32)), .val (.ref oe), .val (.int (1 : Int32)), .val (.int (1 : Int32))] [(.int (1 : Int32))]))
    refine Runs.st (fun t' k' => XS.iload X5_.here hx rfl (hb hby at_48) rfl k') ?_
    show Runs p.tables e below _ (T5_.setTop (mkF m 50 #[.val (.int i0), .val (.int (1 : Int32)), .val (.ref oe), .val (.int (1 : Int32)), .val (.int (1 : Int32))] [(.int (1 : Int32)), (.int (1 : Int32))]))
    refine Runs.st (fun t' k' => XS.icmpNo X5_.here hx rfl (hb hby at_50) rfl (teq rfl).2 k') ?_
    show Runs p.tables e below _ (T5_.setTop (mkF m 53 #[.val (.int i0), .val (.int (1 : Int32)), .val (.ref oe), .val (.int (1 : Int32)), .val (.int (1 : Int32))] []))
    refine Runs.st (fun t' k' => XS.iconst X5_.here hx rfl (hb hby at_53) k') ?_
    show Runs p.tables e below _ (T5_.setTop (mkF m 54 #[.val (.int i0), .val (.int (1 : Int32)), .val (.ref oe), .val (.int (1 : Int32)), .val (.int (1 : Int32))] [(.int (1 : Int32))]))
    refine Runs.st (fun t' k' => XS.goto X5_.here hx rfl (pc0 := 54) (pc' := 58) rfl (hb hby at_54) (by decide) (by decide) k') ?_
    show Runs p.tables e below _ (T5_.setTop (mkF m 58 #[.val (.int i0), .val (.int (1 : Int32)), .val (.ref oe), .val (.int (1 : Int32)), .val (.int (1 : Int32))] [(.int (1 : Int32))]))
    refine Runs.retW (vm₁ := T4_.vm) X5_ hS (by rw [e5_]; exact hk) hlk (v := (some (.int (1 : Int32)))) (fun h => by rw [hret] at h; cases h) (by decide) (by decide) ?_ (fun fs hr => retN X5_ hx (t := .boolean) hret (by simp) (hb hby at_58) hr)
    try rw [e5_]
    exact ⟨rfl, N5_⟩
  · skip
    refine Runs.st (fun t' k' => XS.ifYes X0.here hx rfl (pc0 := 3) (pc' := 10) rfl (hb hby at_3) rfl ((if0 _ _).trans (feq c3).2) (by decide) (by decide) k') ?_
    show Runs p.tables e below _ (s₁.setTop (mkF m 10 #[.val (.int i0), .unset, .unset, .unset, .unset] []))
    refine Runs.st (fun t' k' => XS.iconst X0.here hx rfl (hb hby at_10) k') ?_
    show Runs p.tables e below _ (s₁.setTop (mkF m 11 #[.val (.int i0), .unset, .unset, .unset, .unset] [(.int (0 : Int32))]))
    refine Runs.st (fun t' k' => XS.istoreN X0.here hx rfl (hb hby at_11) rfl (l' := #[.val (.int i0), .val (.int (0 : Int32)), .unset, .unset, .unset]) rfl k') ?_
    show Runs p.tables e below _ (s₁.setTop (mkF m 12 #[.val (.int i0), .val (.int (0 : Int32)), .unset, .unset, .unset] []))
    refine Runs.st (fun t' k' => XS.iloadN X0.here hx rfl (hb hby at_12) rfl k') ?_
    show Runs p.tables e below _ (s₁.setTop (mkF m 13 #[.val (.int i0), .val (.int (0 : Int32)), .unset, .unset, .unset] [(.int (0 : Int32))]))
    refine Runs.st (fun t' k' => XS.ifYes X0.here hx rfl (pc0 := 13) (pc' := 22) rfl (hb hby at_13) rfl ((if0 _ _).trans (teq rfl).1) (by decide) (by decide) k') ?_
    show Runs p.tables e below _ (s₁.setTop (mkF m 22 #[.val (.int i0), .val (.int (0 : Int32)), .unset, .unset, .unset] []))
    obtain ⟨T6_, X6_, e6_, st6_⟩ := getS2 X0 hx hZ hown (host := "") (Or.inl (hw _ (List.mem_of_getElem? (i := 38) rfl))) Via.refl e0 (S1.ext old.2) (g := (mkF m 22 #[.val (.int i0), .val (.int (0 : Int32)), .unset, .unset, .unset] [])) rfl (hb hby at_22)
    refine Runs.st (st6_) ?_
    show Runs p.tables e below _ (T6_.setTop (mkF m 25 #[.val (.int i0), .val (.int (0 : Int32)), .unset, .unset, .unset] [(.ref op)]))
    refine Runs.st (fun t' k' => XS.astoreN X6_.here hx rfl (hb hby at_25) rfl rfl (l' := #[.val (.int i0), .val (.int (0 : Int32)), .val (.ref op), .unset, .unset]) rfl k') ?_
    show Runs p.tables e below _ (T6_.setTop (mkF m 26 #[.val (.int i0), .val (.int (0 : Int32)), .val (.ref op), .unset, .unset] []))
    refine Runs.st (fun t' k' => XS.aloadN X6_.here hx rfl (hb hby at_26) rfl rfl k') ?_
    show Runs p.tables e below _ (T6_.setTop (mkF m 27 #[.val (.int i0), .val (.int (0 : Int32)), .val (.ref op), .unset, .unset] [(.ref op)]))
    obtain ⟨cq7_, kq7_, q7_a, q7_b, q7_c⟩ := isOf hZ e6_ (E1.ext old.2)
    obtain ⟨_, _, ⟨T7_, L7_, k7_, n7_⟩, -, X7_, ⟨Lc7_, hQ7_, l7_, y7_, z7_⟩, st7_⟩ := X6_.virtualBack hx (y := (⟨"com/example/standing_order/standingorder/model/ChargeType", "hasExpiry", "()Z"⟩ : MethodName)) (z := (⟨"com/example/standing_order/standingorder/model/ChargeType", "hasExpiry", "()Z"⟩ : MethodName)) hown (mvT hZ (hw _ (List.mem_of_getElem? (i := 3) rfl))) (mvT hZ (hw _ (List.mem_of_getElem? (i := 4) rfl))) (notFace_of_selects (args := #[]) (mvT hZ (hw _ (List.mem_of_getElem? (i := 6) rfl)))) (mvT hZ (hw _ (List.mem_of_getElem? (i := 6) rfl))) (mvT hZ (hw _ (List.mem_of_getElem? (i := 5) rfl))) (by decide) (backOf (W := 0) (rmHas l Z a0 hw [] op oe (0 : Int32) h0 n0 sz (S0.ext old.2) (Or.inr ⟨neq, rfl⟩)) hZ (hw _ (List.mem_of_getElem? (i := 7) rfl)) (hw _ (List.mem_of_getElem? (i := 1) rfl)) (by decide) (by decide)) q7_a q7_c (g := (mkF m 27 #[.val (.int i0), .val (.int (0 : Int32)), .val (.ref op), .unset, .unset] [(.ref op)])) rfl (by rw [hml]; rfl) (Steps.refl _) (argsL := []) (rest := []) (lenOf pd__28_29Z rfl) rfl (by show 2 * 0 + _ ≤ _; exact Nat.le_of_eq rfl) (hb hby at_27) (fun _ _ => ⟨rfl, e6_, (by decide : 0 + 0 ≤ _), (by decide : 0 + 0 ≤ _)⟩)
    dsimp only [Pt.U, Pt.locs, Pt.cells, Pt.slots] at X7_ l7_ y7_ z7_ st7_ hQ7_
    subst l7_ y7_ z7_
    obtain ⟨rfl, N7_q, e7_⟩ := hQ7_
    have N7_ := Fr.app N0 N7_q
    refine Runs.tr st7_ ?_
    replace X7_ := wider X7_ (c' := 0) (s' := 0) (by decide) (by decide)
    show Runs p.tables e below _ (T7_.setTop (mkF m 30 #[.val (.int i0), .val (.int (0 : Int32)), .val (.ref op), .unset, .unset] [(.int (0 : Int32))]))
    refine Runs.st (fun t' k' => XS.istoreN X7_.here hx rfl (hb hby at_30) rfl (l' := #[.val (.int i0), .val (.int (0 : Int32)), .val (.ref op), .val (.int (0 : Int32)), .unset]) rfl k') ?_
    show Runs p.tables e below _ (T7_.setTop (mkF m 31 #[.val (.int i0), .val (.int (0 : Int32)), .val (.ref op), .val (.int (0 : Int32)), .unset] []))
    refine Runs.st (fun t' k' => XS.aloadN X7_.here hx rfl (hb hby at_31) rfl rfl k') ?_
    show Runs p.tables e below _ (T7_.setTop (mkF m 32 #[.val (.int i0), .val (.int (0 : Int32)), .val (.ref op), .val (.int (0 : Int32)), .unset] [(.ref op)]))
    obtain ⟨cq8_, kq8_, q8_a, q8_b, q8_c⟩ := isOf hZ e7_ (E1.ext old.2)
    obtain ⟨_, _, ⟨T8_, L8_, k8_, n8_⟩, -, X8_, ⟨Lc8_, hQ8_, l8_, y8_, z8_⟩, st8_⟩ := X7_.virtualBack hx (y := (⟨"com/example/standing_order/standingorder/model/ChargeType", "apiName", "()Ljava/lang/String;"⟩ : MethodName)) (z := (⟨"com/example/standing_order/standingorder/model/ChargeType", "apiName", "()Ljava/lang/String;"⟩ : MethodName)) hown (mvT hZ (hw _ (List.mem_of_getElem? (i := 9) rfl))) (mvT hZ (hw _ (List.mem_of_getElem? (i := 10) rfl))) (notFace_of_selects (args := #[]) (mvT hZ (hw _ (List.mem_of_getElem? (i := 12) rfl)))) (mvT hZ (hw _ (List.mem_of_getElem? (i := 12) rfl))) (mvT hZ (hw _ (List.mem_of_getElem? (i := 11) rfl))) (by decide) (backOf (W := 0) (rmSym l Z a0 hw [] op s1 h0 n0 sz (Fs1.ext old.2)) hZ (hw _ (List.mem_of_getElem? (i := 13) rfl)) (hw _ (List.mem_of_getElem? (i := 1) rfl)) (by decide) (by decide)) q8_a q8_c (g := (mkF m 32 #[.val (.int i0), .val (.int (0 : Int32)), .val (.ref op), .val (.int (0 : Int32)), .unset] [(.ref op)])) rfl (by rw [hml]; rfl) (Steps.refl _) (argsL := []) (rest := []) (lenOf pd__28_29Ljava_2flang_2fString_3b rfl) rfl (by show 2 * 0 + _ ≤ _; exact Nat.le_of_eq rfl) (hb hby at_32) (fun _ _ => ⟨rfl, e7_, (by decide : 0 + 0 ≤ _), (by decide : 0 + 0 ≤ _)⟩)
    dsimp only [Pt.U, Pt.locs, Pt.cells, Pt.slots] at X8_ l8_ y8_ z8_ st8_ hQ8_
    subst l8_ y8_ z8_
    obtain ⟨rfl, N8_q, e8_⟩ := hQ8_
    have N8_ := Fr.app N7_ N8_q
    refine Runs.tr st8_ ?_
    replace X8_ := wider X8_ (c' := 0) (s' := 0) (by decide) (by decide)
    show Runs p.tables e below _ (T8_.setTop (mkF m 35 #[.val (.int i0), .val (.int (0 : Int32)), .val (.ref op), .val (.int (0 : Int32)), .unset] [(.ref s1)]))
    have wS9_ : ∀ a ∈ Bundle.stringAtoms, a.before a0 Z = true := by
      intro a ha
      simp only [Bundle.stringAtoms, Bundle.sN, List.mem_cons, List.not_mem_nil, or_false] at ha
      rcases ha with rfl | rfl | rfl | rfl | rfl | rfl | rfl
      · exact (hw _ (List.mem_of_getElem? (i := 17) rfl))
      · exact (hw _ (List.mem_of_getElem? (i := 18) rfl))
      · exact (hw _ (List.mem_of_getElem? (i := 19) rfl))
      · exact (hw _ (List.mem_of_getElem? (i := 20) rfl))
      · exact (hw _ (List.mem_of_getElem? (i := 21) rfl))
      · exact (hw _ (List.mem_of_getElem? (i := 22) rfl))
      · exact (hw _ (List.mem_of_getElem? (i := 23) rfl))
    obtain ⟨lt, T9_, h9_, j9_, v_lt, kc9_, X9_, e9_, E9_, hS9_, hk9_, hZ9_, hown9_, E_lt, Fc_lt, Fv_lt, V_lt, -, -, IB9_, st9_⟩ := ldcSV (s := s) (vm0 := s.vm) (X := (show Stand p l e room_1 (s.setVm s.vm) m _ below meth c _ _ _ _ from X8_)) hx hZ hown (hw _ (List.mem_of_getElem? (i := 16) rfl)) wS9_ e8_ hS hk (hsn ▸ N8_) hkeep IB0 (by decide) (hheld) (hcw) (vs := [(.int (80 : Int32)), (.int (114 : Int32)), (.int (101 : Int32)), (.int (80 : Int32)), (.int (97 : Int32)), (.int (105 : Int32)), (.int (100 : Int32))]) (z := (7 : Int32)) ⟨by decide, by first | rfl | decide +kernel⟩ (by decide) (by decide) (g := (mkF m 35 #[.val (.int i0), .val (.int (0 : Int32)), .val (.ref op), .val (.int (0 : Int32)), .unset] [(.ref s1)])) rfl (hb hby at_35) (n := 28) (by decide) (by decide) (by decide) (by decide)
    refine Runs.st st9_ ?_
    replace old := old.ext E9_
    replace sz := Nat.le_trans sz E9_.1
    replace K := K.ext E9_
    replace hk := Nat.le_trans hk E9_.1
    have hS := hS9_
    have hk := hk9_
    have hZ := hZ9_
    have hown := hown9_
    show Runs p.tables e below _ (T9_.setTop (mkF m 37 #[.val (.int i0), .val (.int (0 : Int32)), .val (.ref op), .val (.int (0 : Int32)), .unset] [(.ref lt), (.ref s1)]))
    obtain ⟨cq10_, kq10_, q10_a, q10_b, q10_c⟩ := isOf hZ e9_ (Es1.ext old.2)
    obtain ⟨_, _, ⟨T10_, L10_, k10_, n10_⟩, -, X10_, ⟨Lc10_, hQ10_, l10_, y10_, z10_⟩, st10_⟩ := X9_.virtualBack hx (y := (⟨"java/lang/String", "equals", "(Ljava/lang/Object;)Z"⟩ : MethodName)) (z := (⟨"java/lang/String", "equals", "(Ljava/lang/Object;)Z"⟩ : MethodName)) hown (mvT hZ (hw _ (List.mem_of_getElem? (i := 24) rfl))) (mvT hZ (hw _ (List.mem_of_getElem? (i := 25) rfl))) (notFace_of_selects (args := #[]) (mvT hZ (hw _ (List.mem_of_getElem? (i := 27) rfl)))) (mvT hZ (hw _ (List.mem_of_getElem? (i := 27) rfl))) (mvT hZ (hw _ (List.mem_of_getElem? (i := 26) rfl))) (by decide) (backOf (W := 0) (rmSE1 l Z a0 hw [] s1 lt zc v1 v_lt k1_ _ h9_ n0 sz (Sc.ext old.2) hzc (Es1.ext old.2) (Fc1.ext old.2) (Fv1.ext old.2) E_lt Fc_lt Fv_lt (V1.ext old.2) V_lt) hZ (hw _ (List.mem_of_getElem? (i := 28) rfl)) (hw _ (List.mem_of_getElem? (i := 17) rfl)) (by decide) (by decide)) q10_a q10_c (g := (mkF m 37 #[.val (.int i0), .val (.int (0 : Int32)), .val (.ref op), .val (.int (0 : Int32)), .unset] [(.ref lt), (.ref s1)])) rfl (by rw [hml]; rfl) (Steps.refl _) (argsL := [(.ref lt)]) (rest := []) (lenOf pd__28Ljava_2flang_2fObject_3b_29Z rfl) rfl (by show 2 * 0 + _ ≤ _; exact Nat.le_of_eq rfl) (hb hby at_37) (fun _ _ => ⟨rfl, e9_, (by decide : 2 + 0 ≤ _), (by decide : 32 + 0 ≤ _)⟩)
    dsimp only [Pt.U, Pt.locs, Pt.cells, Pt.slots] at X10_ l10_ y10_ z10_ st10_ hQ10_
    subst l10_ y10_ z10_
    obtain ⟨rfl, N10_q, e10_⟩ := hQ10_
    have N10_ := Fr.app N8_ N10_q
    refine Runs.tr st10_ ?_
    replace X10_ := wider X10_ (c' := 2) (s' := 32) (by decide) (by decide)
    show Runs p.tables e below _ (T10_.setTop (mkF m 40 #[.val (.int i0), .val (.int (0 : Int32)), .val (.ref op), .val (.int (0 : Int32)), .unset] [(.int (0 : Int32))]))
    refine Runs.st (fun t' k' => XS.istore X10_.here hx rfl (hb hby at_40) rfl (l' := #[.val (.int i0), .val (.int (0 : Int32)), .val (.ref op), .val (.int (0 : Int32)), .val (.int (0 : Int32))]) rfl k') ?_
    show Runs p.tables e below _ (T10_.setTop (mkF m 42 #[.val (.int i0), .val (.int (0 : Int32)), .val (.ref op), .val (.int (0 : Int32)), .val (.int (0 : Int32))] []))
    refine Runs.st (fun t' k' => XS.iloadN X10_.here hx rfl (hb hby at_42) rfl k') ?_
    show Runs p.tables e below _ (T10_.setTop (mkF m 43 #[.val (.int i0), .val (.int (0 : Int32)), .val (.ref op), .val (.int (0 : Int32)), .val (.int (0 : Int32))] [(.int (0 : Int32))]))
    refine Runs.st (fun t' k' => XS.iloadN X10_.here hx rfl (hb hby at_43) rfl k') ?_
    show Runs p.tables e below _ (T10_.setTop (mkF m 44 #[.val (.int i0), .val (.int (0 : Int32)), .val (.ref op), .val (.int (0 : Int32)), .val (.int (0 : Int32))] [(.int (0 : Int32)), (.int (0 : Int32))]))
    refine Runs.st (fun t' k' => XS.icmpNo X10_.here hx rfl (hb hby at_44) rfl (teq rfl).2 k') ?_
    show Runs p.tables e below _ (T10_.setTop (mkF m 47 #[.val (.int i0), .val (.int (0 : Int32)), .val (.ref op), .val (.int (0 : Int32)), .val (.int (0 : Int32))] []))
    refine Runs.st (fun t' k' => XS.iloadN X10_.here hx rfl (hb hby at_47) rfl k') ?_
    show Runs p.tables e below _ (T10_.setTop (mkF m 48 #[.val (.int i0), .val (.int (0 : Int32)), .val (.ref op), .val (.int (0 : Int32)), .val (.int (0 : Int32))] [(.int (0 : Int32))]))
    refine Runs.st (fun t' k' => XS.iload X10_.here hx rfl (hb hby at_48) rfl k') ?_
    show Runs p.tables e below _ (T10_.setTop (mkF m 50 #[.val (.int i0), .val (.int (0 : Int32)), .val (.ref op), .val (.int (0 : Int32)), .val (.int (0 : Int32))] [(.int (0 : Int32)), (.int (0 : Int32))]))
    refine Runs.st (fun t' k' => XS.icmpNo X10_.here hx rfl (hb hby at_50) rfl (teq rfl).2 k') ?_
    show Runs p.tables e below _ (T10_.setTop (mkF m 53 #[.val (.int i0), .val (.int (0 : Int32)), .val (.ref op), .val (.int (0 : Int32)), .val (.int (0 : Int32))] []))
    refine Runs.st (fun t' k' => XS.iconst X10_.here hx rfl (hb hby at_53) k') ?_
    show Runs p.tables e below _ (T10_.setTop (mkF m 54 #[.val (.int i0), .val (.int (0 : Int32)), .val (.ref op), .val (.int (0 : Int32)), .val (.int (0 : Int32))] [(.int (1 : Int32))]))
    refine Runs.st (fun t' k' => XS.goto X10_.here hx rfl (pc0 := 54) (pc' := 58) rfl (hb hby at_54) (by decide) (by decide) k') ?_
    show Runs p.tables e below _ (T10_.setTop (mkF m 58 #[.val (.int i0), .val (.int (0 : Int32)), .val (.ref op), .val (.int (0 : Int32)), .val (.int (0 : Int32))] [(.int (1 : Int32))]))
    refine Runs.retW (vm₁ := T9_.vm) X10_ hS (by rw [e10_]; exact hk) hlk (v := (some (.int (1 : Int32)))) (fun h => by rw [hret] at h; cases h) (by decide) (by decide) ?_ (fun fs hr => retN X10_ hx (t := .boolean) hret (by simp) (hb hby at_58) hr)
    try rw [e10_]
    exact ⟨rfl, N10_⟩
set_option maxRecDepth 65536 in
set_option maxHeartbeats 40000000 in
theorem comes_1 {Post : Tables → Env → Array Value → State → Outcome → State → Prop} (hpost : ∀ tb e args s v u, (limb_1_1.after args s (.returned v) u = true ∧ limb_1_2.after args s (.returned v) u = true ∧ True) → ReturnedEndW s (.returned v) u (Jvm.fieldLocs frame_1_writes args s ++ Jvm.arrayLocs frame_1_arrays args s ++ Jvm.staticLocs frame_1_statics s) 8 1088 → Post tb e args s (.returned v) u) :
    ArmFor flags0 classFile x code maxLocals ret World_1 tables_1 room_1 Calls_1 rest_1 Pre_1 Post := by
  intro l hfl _ _ p e ha hc hk s m args below hf hA hF happ hP
  obtain ⟨hcalls, hrest, hpre⟩ := hP
  obtain ⟨-, -, -, hnamed, -, -, -, hat⟩ := (Spec.applies_iff hf).mp happ
  obtain ⟨hg, hn⟩ := and_e (Cond.before_iff.mp (show (Jvm.Cond.and given_1 narrow_1).before args s = true from hpre))
  obtain ⟨gc, gr⟩ := and_e hg
  have gi0 := gr
  obtain ⟨w0, rfl⟩ : ∃ w0 : Value, args = #[w0] := by
    have hs : args.size = 1 := by simpa [Cond.value, given_1] using gc
    obtain ⟨L⟩ := args
    match L, hs with
    | [w0], _ => exact ⟨w0, rfl⟩
  have hw := fun d (hd : d ∈ tables_1) => atoms_spec (ws := Jvm.Cond.code x code maxLocals ret :: tables_1) hat d (List.mem_cons_of_mem _ hd)
  have hfit : Fit s := fun {y c} hc i hi => by
    obtain ⟨ha, rfl⟩ := Array.getElem?_eq_some_iff.mp hc
    have q := List.all_eq_true.mp ((Array.all_eq_true_iff_forall_mem.mp hF) _ (Array.getElem_mem ha)) i (List.mem_range.mpr hi)
    simpa [Array.getElem?_eq_getElem hi] using q
  obtain ⟨hsets, hown0⟩ := atoms_of _ (rest_1_c_eq ▸ (show rest_1_c.before _ s = true from hrest))
  have hr0 := Cond.before_iff.mp hown0
  obtain ⟨i0, ei0⟩ := is_v gi0
  obtain rfl : w0 = (.int i0) := Option.some.inj ei0
  obtain ⟨c0, hn⟩ := and_e hn
  obtain ⟨c1, hn⟩ := and_e hn
  obtain ⟨c2, hn⟩ := and_e hn
  obtain ⟨c3, hn⟩ := and_e hn
  obtain ⟨c4, hn⟩ := and_e hn
  obtain ⟨c5, hn⟩ := and_e hn
  obtain ⟨c6, hn⟩ := and_e hn
  obtain ⟨c7, hn⟩ := and_e hn
  obtain ⟨c8, hn⟩ := and_e hn
  obtain ⟨c9, hn⟩ := and_e hn
  obtain ⟨c10, hn⟩ := and_e hn
  obtain ⟨c11, hn⟩ := and_e hn
  obtain ⟨c12, hn⟩ := and_e hn
  obtain ⟨c13, hn⟩ := and_e hn
  obtain ⟨c14, hn⟩ := and_e hn
  obtain ⟨c15, hn⟩ := and_e hn
  obtain ⟨c16, hn⟩ := and_e hn
  obtain ⟨c17, hn⟩ := and_e hn
  obtain ⟨c18, hn⟩ := and_e hn
  obtain ⟨c19, hn⟩ := and_e hn
  obtain ⟨c20, hn⟩ := and_e hn
  obtain ⟨c21, hn⟩ := and_e hn
  obtain ⟨c22, hn⟩ := and_e hn
  obtain ⟨c23, hn⟩ := and_e hn
  obtain ⟨c24, hn⟩ := and_e hn
  obtain ⟨c25, hn⟩ := and_e hn
  have c26 := hn
  obtain ⟨oe, ev0, S0, E0⟩ := the_static c0 (hw _ (List.mem_of_getElem? (i := 1) rfl)) (hw _ (List.mem_of_getElem? (i := 2) rfl))
  have O0 := the_int ev0 c7
  obtain ⟨s0, es0, Fs0, Es0⟩ := the_ref ev0 c1
  have Fc0 := the_int es0 c2
  obtain ⟨v0, cl0, ea0, Fv0, Ar0⟩ := the_arr es0 c3
  obtain ⟨ln0, lz0⟩ := the_len ea0 Ar0 c4
  have V0 : Arv s s.heap v0 cl0.cls .byte (7 : Int32) [(.int (80 : Int32)), (.int (114 : Int32)), (.int (101 : Int32)), (.int (80 : Int32)), (.int (97 : Int32)), (.int (105 : Int32)), (.int (100 : Int32))] (.int (0 : Int32)) := Arv.start hfit Ar0 ln0 lz0 (by decide) (by decide) ⟨the_elem ea0 Ar0 c12, the_elem ea0 Ar0 c13, the_elem ea0 Ar0 c14, the_elem ea0 Ar0 c15, the_elem ea0 Ar0 c16, the_elem ea0 Ar0 c17, the_elem ea0 Ar0 c18, trivial⟩
  obtain ⟨op, ev1, S1, E1⟩ := the_static c5 (hw _ (List.mem_of_getElem? (i := 1) rfl)) (hw _ (List.mem_of_getElem? (i := 39) rfl))
  have O1 := the_int ev1 c6
  obtain ⟨s1, es1, Fs1, Es1⟩ := the_ref ev1 c8
  have Fc1 := the_int es1 c9
  obtain ⟨v1, cl1, ea1, Fv1, Ar1⟩ := the_arr es1 c10
  obtain ⟨ln1, lz1⟩ := the_len ea1 Ar1 c11
  have V1 : Arv s s.heap v1 cl1.cls .byte (8 : Int32) [(.int (80 : Int32)), (.int (111 : Int32)), (.int (115 : Int32)), (.int (116 : Int32)), (.int (80 : Int32)), (.int (97 : Int32)), (.int (105 : Int32)), (.int (100 : Int32))] (.int (0 : Int32)) := Arv.start hfit Ar1 ln1 lz1 (by decide) (by decide) ⟨the_elem ea1 Ar1 c19, the_elem ea1 Ar1 c20, the_elem ea1 Ar1 c21, the_elem ea1 Ar1 c22, the_elem ea1 Ar1 c23, the_elem ea1 Ar1 c24, the_elem ea1 Ar1 c25, the_elem ea1 Ar1 c26, trivial⟩
  obtain ⟨zc, ezc⟩ := is_v (Cond.before_iff.mp (hsets _ (List.mem_of_getElem? (i := 1) rfl)))
  have Sc := Sta.start ezc (Or.inl (hsets _ (List.mem_of_getElem? (i := 0) rfl)))
  have hzc : ¬ zc = 0 := fun q => by
    have u := not_v (Cond.before_iff.mp (hsets _ (List.mem_of_getElem? (i := 2) rfl)))
    rw [q] at ezc
    have w := eq_i ezc (Term.int_eval (0 : Int32)) rfl
    rw [u] at w; cases w
  obtain ⟨fm, efm, hfm⟩ := isR_v (Cond.before_iff.mp (hsets _ (List.mem_of_getElem? (i := 8) rfl)))
  have Sf := Sta.start efm (Or.inl (hsets _ (List.mem_of_getElem? (i := 7) rfl)))
  have hheld : Jvm.Lit.constHeld s "com/example/standing_order/standingorder/model/ChargeTypeHasExpiryPinLaw" 24 := hcalls.1 ("com/example/standing_order/standingorder/model/ChargeTypeHasExpiryPinLaw", 24) (List.mem_cons_self ..)
  have hcw : Jvm.Lit.compactW.before #[.int i0] s = true := (hsets _ (List.mem_of_getElem? (i := 2) rfl))
  obtain ⟨n, o, h1, h2, h3, _, L, rfl, ⟨rfl, N⟩, hq⟩ := rm0 l s _ hw tables_1 i0 oe op s0 s1 v0 v1 _ _ zc s.heap s.heap.size (Nat.le_refl _) (Old.start s) rfl hheld hcw Sc hzc S0 E0 O0 Fs0 Es0 Fc0 Fv0 V0 S1 E1 O1 Fs1 Es1 Fc1 Fv1 V1 p e ha hc hk s m _ below hf ((Spec.applies_iff_loose hf).mp happ).1 ⟨rfl, rfl, rfl⟩ trivial
  refine ⟨n, _, h1, h2, h3, hpost _ _ _ _ _ _ ⟨Cond.after_iff.mpr rfl, Cond.after_iff.mpr (eq_i res_at (Term.int_eval (1)) rfl), trivial⟩ ⟨hq.1, hq.2.1, hq.2.2.1, (hq.2.2.2.sift fun y hy => Or.inr (N y hy)).mono (by decide) (by decide)⟩⟩
theorem main_1_1 : Claimed_1_1 := comes_1 fun _ _ _ _ _ _ h hF => ⟨h.1, hF⟩
theorem main_1_2 : Claimed_1_2 := comes_1 fun _ _ _ _ _ _ h hF => ⟨h.2.1, hF⟩
end Jvm.Pilot.@@N@@
namespace Jvm.Pilot.@@N@@
open Jvm Jvm.ClassFile Sem Op Lib Jvm.Free Jvm.Stand Jvm.Pilot.@@N@@.Jvm.D
/-! MADE BY PROGRAM (witnessworld.py) out of the Statement's table words and the real class files: 18 classes; the members and pool entries that the words name. The judged class is class 1, her method 1. -/
namespace start1
open Jvm.ClassFile
def u (s : String) : CpInfo := .utf8 (stringToUtf16 s)
/-- a pool by its gaps: so many unusable entries, then the entry; so many at the end -/
def gap : Nat → List CpInfo → List CpInfo
  | 0, r => r
  | n + 1, r => .unusable :: gap n r
def poolList (es : List (Nat × CpInfo)) (last : Nat) : List CpInfo := es.foldr (fun e r => gap e.1 (e.2 :: r)) (gap last [])
def pool (es : List (Nat × CpInfo)) (last : Nat) : Array CpInfo := ⟨poolList es last⟩
def fileOf (pool : Array CpInfo) (this : Nat) (attrs : Array Attribute := #[]) (ms : Array MethodInfo := #[]) (fl : Nat := 33) (sup : Nat := 0) (ifs : Array Nat := #[]) (fds : Array FieldInfo := #[]) : ClassFile where
  minorVersion := 0
  majorVersion := 65
  constantPool := pool
  accessFlags := fl
  thisClass := this
  superClass := sup
  interfaces := ifs
  fields := fds
  methods := ms
  attributes := attrs
def plain (name : String) (sup : Option ClassId) : Class where
  name := name
  kind := .ordinary
  loader := none
  accessFlags := 33
  super := sup
  interfaces := #[]
  cf := none
  fields := #[]
  methods := #[]
  instanceTypes := #[]
  staticTypes := #[]
  resolved := #[]
  callSites := []
  init := .initialized
  statics := none
  mirror := none

def pool0 : Array CpInfo := pool [(5, u "<init>"), (0, u "()V"), (1, .class_ 10), (1, u "java/lang/Object")] 113

def k0m0 : Method := { name := "<init>", desc := "()V", sig := { parameters := [], returnType := none }, accessFlags := 1, code := none }
/-- java/lang/Object -/
def k0 : Class := { plain "java/lang/Object" none with
  accessFlags := 33
  interfaces := #[]
  cf := some (fileOf pool0 8 #[] #[{ accessFlags := 1, nameIndex := 5, descriptorIndex := 6, attributes := #[] }] 33 0 #[] #[])
  fields := #[]
  methods := #[k0m0]
  instanceTypes := #[]
  staticTypes := #[]
  resolved := Array.replicate 124 none
  statics := none }

def pool1 : Array CpInfo := pool [(2, .class_ 4), (1, u "java/lang/Object"), (0, u "<init>"), (0, u "()V"), (0, .fieldref 8 9), (0, .class_ 10), (0, .nameAndType 11 12), (0, u "com/example/standing_order/standingorder/model/ChargeType"), (0, u "PRE_PAID"), (0, u "Lcom/example/standing_order/standingorder/model/ChargeType;"), (0, .fieldref 8 14), (0, .nameAndType 15 12), (0, u "POST_PAID"), (0, .methodref 8 17), (0, .nameAndType 18 19), (0, u "hasExpiry"), (0, u "()Z"), (0, .methodref 8 21), (0, .nameAndType 22 23), (0, u "apiName"), (0, u "()Ljava/lang/String;"), (0, .string 25), (0, u "PrePaid"), (0, .methodref 27 28), (0, .class_ 29), (0, .nameAndType 30 31), (0, u "java/lang/String"), (0, u "equals"), (0, u "(Ljava/lang/Object;)Z"), (0, .class_ 33), (0, u "com/example/standing_order/standingorder/model/ChargeTypeHasExpiryPinLaw"), (2, u "law"), (0, u "(I)Z")] 3

def k1m0 : Method := { name := "<init>", desc := "()V", sig := { parameters := [], returnType := none }, accessFlags := 1, code := none }
def k1c1 : Code := { maxStack := 2, maxLocals := 5, code := code, exceptionTable := #[], attributes := #[] }
def k1m1 : Method := { name := "law", desc := "(I)Z", sig := { parameters := [.int], returnType := some .boolean }, accessFlags := 9, code := some k1c1 }
/-- com/example/standing_order/standingorder/model/ChargeTypeHasExpiryPinLaw -/
def k1 : Class := { plain "com/example/standing_order/standingorder/model/ChargeTypeHasExpiryPinLaw" (some 0) with
  accessFlags := 49
  interfaces := #[]
  cf := some (fileOf pool1 32 #[] #[{ accessFlags := 1, nameIndex := 5, descriptorIndex := 6, attributes := #[] }, { accessFlags := 9, nameIndex := 36, descriptorIndex := 37, attributes := #[] }] 49 2 #[] #[])
  fields := #[]
  methods := #[k1m0, k1m1]
  instanceTypes := #[]
  staticTypes := #[]
  resolved := Array.replicate 41 none
  statics := none }

def pool2 : Array CpInfo := pool [(1, .class_ 2), (0, u "java/lang/constant/Constable"), (0, .class_ 4), (0, u "java/lang/Object")] 6

/-- java/lang/constant/Constable -/
def k2 : Class := { plain "java/lang/constant/Constable" (some 0) with
  accessFlags := 1537
  interfaces := #[]
  cf := some (fileOf pool2 1 #[] #[] 1537 3 #[] #[])
  fields := #[]
  methods := #[]
  instanceTypes := #[]
  staticTypes := #[]
  resolved := Array.replicate 11 none
  statics := none }

def pool3 : Array CpInfo := pool [(1, .class_ 2), (0, u "java/lang/Comparable"), (0, .class_ 4), (0, u "java/lang/Object")] 7

/-- java/lang/Comparable -/
def k3 : Class := { plain "java/lang/Comparable" (some 0) with
  accessFlags := 1537
  interfaces := #[]
  cf := some (fileOf pool3 1 #[] #[] 1537 3 #[] #[])
  fields := #[]
  methods := #[]
  instanceTypes := #[]
  staticTypes := #[]
  resolved := Array.replicate 12 none
  statics := none }

def pool4 : Array CpInfo := pool [(1, .class_ 2), (0, u "java/io/Serializable"), (0, .class_ 4), (0, u "java/lang/Object")] 2

/-- java/io/Serializable -/
def k4 : Class := { plain "java/io/Serializable" (some 0) with
  accessFlags := 1537
  interfaces := #[]
  cf := some (fileOf pool4 1 #[] #[] 1537 3 #[] #[])
  fields := #[]
  methods := #[]
  instanceTypes := #[]
  staticTypes := #[]
  resolved := Array.replicate 7 none
  statics := none }

def pool5 : Array CpInfo := pool [(2, .class_ 4), (1, u "java/lang/Enum"), (0, u "name"), (0, u "Ljava/lang/String;"), (2, u "ordinal"), (0, u "I"), (1, .class_ 14), (1, u "java/lang/Object"), (4, u "hash"), (86, .class_ 108), (1, u "java/lang/Enum$EnumDesc"), (2, .class_ 112), (0, u "java/lang/constant/Constable"), (0, .class_ 114), (0, u "java/lang/Comparable"), (0, .class_ 116), (0, u "java/io/Serializable")] 87

/-- java/lang/Enum -/
def k5 : Class := { plain "java/lang/Enum" (some 0) with
  accessFlags := 1057
  interfaces := #[2, 3, 4]
  cf := some (fileOf pool5 2 #[.nestMembers #[106]] #[] 1057 12 #[111, 113, 115] #[{ accessFlags := 18, nameIndex := 5, descriptorIndex := 6, attributes := #[] }, { accessFlags := 18, nameIndex := 9, descriptorIndex := 10, attributes := #[] }, { accessFlags := 2, nameIndex := 19, descriptorIndex := 10, attributes := #[] }])
  fields := #[{ name := "name", type := (.object "java/lang/String"), accessFlags := 18, slot := 0, constantValue := 0 }, { name := "ordinal", type := .int, accessFlags := 18, slot := 1, constantValue := 0 }, { name := "hash", type := .int, accessFlags := 2, slot := 2, constantValue := 0 }]
  methods := #[]
  instanceTypes := #[(.object "java/lang/String"), .int, .int]
  staticTypes := #[]
  resolved := Array.replicate 204 none
  statics := none }

def pool6 : Array CpInfo := pool [(1, .class_ 2), (0, u "com/example/standing_order/standingorder/model/ChargeType"), (0, .fieldref 1 4), (0, .nameAndType 5 6), (0, u "PRE_PAID"), (0, u "Lcom/example/standing_order/standingorder/model/ChargeType;"), (2, u "POST_PAID"), (2, u "$VALUES"), (0, u "[Lcom/example/standing_order/standingorder/model/ChargeType;"), (6, .class_ 22), (1, u "java/lang/Enum"), (6, .fieldref 1 30), (0, .nameAndType 31 32), (0, u "apiName"), (0, u "Ljava/lang/String;"), (32, u "()Ljava/lang/String;"), (0, u "hasExpiry"), (0, u "()Z")] 30

def k6c0 : Code := { maxStack := 1, maxLocals := 1, code := prog_23_method_4_code, exceptionTable := #[], attributes := #[] }
def k6m0 : Method := { name := "apiName", desc := "()Ljava/lang/String;", sig := { parameters := [], returnType := some (.object "java/lang/String") }, accessFlags := 1, code := some k6c0 }
def k6c1 : Code := { maxStack := 2, maxLocals := 1, code := prog_23_method_5_code, exceptionTable := #[], attributes := #[] }
def k6m1 : Method := { name := "hasExpiry", desc := "()Z", sig := { parameters := [], returnType := some .boolean }, accessFlags := 1, code := some k6c1 }
/-- com/example/standing_order/standingorder/model/ChargeType -/
def k6 : Class := { plain "com/example/standing_order/standingorder/model/ChargeType" (some 5) with
  accessFlags := 16433
  interfaces := #[]
  cf := some (fileOf pool6 1 #[] #[{ accessFlags := 1, nameIndex := 31, descriptorIndex := 65, attributes := #[] }, { accessFlags := 1, nameIndex := 66, descriptorIndex := 67, attributes := #[] }] 16433 20 #[] #[{ accessFlags := 16409, nameIndex := 5, descriptorIndex := 6, attributes := #[] }, { accessFlags := 16409, nameIndex := 9, descriptorIndex := 6, attributes := #[] }, { accessFlags := 18, nameIndex := 31, descriptorIndex := 32, attributes := #[] }, { accessFlags := 4122, nameIndex := 12, descriptorIndex := 13, attributes := #[] }])
  fields := #[{ name := "PRE_PAID", type := (.object "com/example/standing_order/standingorder/model/ChargeType"), accessFlags := 16409, slot := 0, constantValue := 0 }, { name := "POST_PAID", type := (.object "com/example/standing_order/standingorder/model/ChargeType"), accessFlags := 16409, slot := 1, constantValue := 0 }, { name := "apiName", type := (.object "java/lang/String"), accessFlags := 18, slot := 3, constantValue := 0 }, { name := "$VALUES", type := (.array (.object "com/example/standing_order/standingorder/model/ChargeType")), accessFlags := 4122, slot := 2, constantValue := 0 }]
  methods := #[k6m0, k6m1]
  instanceTypes := #[(.object "java/lang/String"), .int, .int, (.object "java/lang/String")]
  staticTypes := #[(.object "com/example/standing_order/standingorder/model/ChargeType"), (.object "com/example/standing_order/standingorder/model/ChargeType"), (.array (.object "com/example/standing_order/standingorder/model/ChargeType"))]
  resolved := Array.replicate 98 none
  statics := some 0 }

def pool7 : Array CpInfo := pool [(2, .class_ 4), (1, u "java/lang/CharSequence"), (42, .class_ 48), (0, u "java/lang/CharSequence$1CodePointIterator"), (10, .class_ 60), (0, u "java/lang/CharSequence$1CharIterator"), (5, .class_ 67), (0, u "java/lang/Object")] 63

/-- java/lang/CharSequence -/
def k7 : Class := { plain "java/lang/CharSequence" (some 0) with
  accessFlags := 1537
  interfaces := #[]
  cf := some (fileOf pool7 2 #[.nestMembers #[47, 59]] #[] 1537 66 #[] #[])
  fields := #[]
  methods := #[]
  instanceTypes := #[]
  staticTypes := #[]
  resolved := Array.replicate 131 none
  statics := none }

def pool8 : Array CpInfo := pool [(1, .class_ 2), (0, u "java/lang/constant/ConstantDesc"), (0, .class_ 4), (0, u "java/lang/Object")] 32

/-- java/lang/constant/ConstantDesc -/
def k8 : Class := { plain "java/lang/constant/ConstantDesc" (some 0) with
  accessFlags := 1537
  interfaces := #[]
  cf := some (fileOf pool8 1 #[] #[] 1537 3 #[] #[])
  fields := #[]
  methods := #[]
  instanceTypes := #[]
  staticTypes := #[]
  resolved := Array.replicate 37 none
  statics := none }

def pool9 : Array CpInfo := pool [(2, .class_ 4), (1, u "java/lang/Object"), (0, u "<init>"), (0, u "()V"), (2, .fieldref 10 11), (0, .class_ 12), (0, .nameAndType 13 14), (0, u "java/lang/String"), (0, u "value"), (0, u "[B"), (0, .fieldref 10 16), (0, .nameAndType 17 18), (0, u "coder"), (0, u "B"), (2, u "hash"), (0, u "I"), (2, u "hashIsZero"), (0, u "Z"), (11, .fieldref 10 39), (0, .nameAndType 40 26), (0, u "COMPACT_STRINGS"), (66, .class_ 109), (1, u "java/lang/StringLatin1"), (431, .methodref 107 542), (0, .nameAndType 543 544), (0, u "equals"), (0, u "([B[B)Z"), (28, u "(Ljava/lang/Object;)Z"), (1, .class_ 576), (0, u "java/lang/CharSequence"), (22, u "CASE_INSENSITIVE_ORDER"), (0, u "Ljava/util/Comparator;"), (500, u "serialPersistentFields"), (0, u "[Ljava/io/ObjectStreamField;"), (0, .class_ 1104), (0, u "java/lang/String$CaseInsensitiveComparator"), (1, .class_ 1107), (0, u "java/io/Serializable"), (0, .class_ 1109), (0, u "java/lang/Comparable"), (0, .class_ 1111), (0, u "java/lang/constant/Constable"), (0, .class_ 1113), (0, u "java/lang/constant/ConstantDesc"), (2, u "serialVersionUID"), (0, u "J"), (3, u "REPL"), (0, u "C"), (2, u "LATIN1"), (1, u "UTF16")] 323

def k9m0 : Method := { name := "<init>", desc := "()V", sig := { parameters := [], returnType := none }, accessFlags := 1, code := none }
def k9c1 : Code := { maxStack := 2, maxLocals := 3, code := jdk_42_method_66_code, exceptionTable := #[], attributes := #[] }
def k9m1 : Method := { name := "equals", desc := "(Ljava/lang/Object;)Z", sig := { parameters := [(.object "java/lang/Object")], returnType := some .boolean }, accessFlags := 1, code := some k9c1 }
/-- java/lang/String -/
def k9 : Class := { plain "java/lang/String" (some 0) with
  accessFlags := 49
  interfaces := #[4, 3, 7, 2, 8]
  cf := some (fileOf pool9 10 #[.nestMembers #[1103]] #[{ accessFlags := 1, nameIndex := 5, descriptorIndex := 6, attributes := #[] }, { accessFlags := 1, nameIndex := 543, descriptorIndex := 573, attributes := #[] }] 49 2 #[1106, 1108, 575, 1110, 1112] #[{ accessFlags := 18, nameIndex := 13, descriptorIndex := 14, attributes := #[] }, { accessFlags := 18, nameIndex := 17, descriptorIndex := 18, attributes := #[] }, { accessFlags := 2, nameIndex := 21, descriptorIndex := 22, attributes := #[] }, { accessFlags := 2, nameIndex := 25, descriptorIndex := 26, attributes := #[] }, { accessFlags := 26, nameIndex := 1116, descriptorIndex := 1117, attributes := #[] }, { accessFlags := 24, nameIndex := 40, descriptorIndex := 26, attributes := #[] }, { accessFlags := 26, nameIndex := 1101, descriptorIndex := 1102, attributes := #[] }, { accessFlags := 26, nameIndex := 1121, descriptorIndex := 1122, attributes := #[] }, { accessFlags := 25, nameIndex := 599, descriptorIndex := 600, attributes := #[] }, { accessFlags := 24, nameIndex := 1125, descriptorIndex := 18, attributes := #[] }, { accessFlags := 24, nameIndex := 1127, descriptorIndex := 18, attributes := #[] }])
  fields := #[{ name := "value", type := (.array .byte), accessFlags := 18, slot := 0, constantValue := 0 }, { name := "coder", type := .byte, accessFlags := 18, slot := 1, constantValue := 0 }, { name := "hash", type := .int, accessFlags := 2, slot := 2, constantValue := 0 }, { name := "hashIsZero", type := .boolean, accessFlags := 2, slot := 3, constantValue := 0 }, { name := "serialVersionUID", type := .long, accessFlags := 26, slot := 0, constantValue := 0 }, { name := "COMPACT_STRINGS", type := .boolean, accessFlags := 24, slot := 1, constantValue := 0 }, { name := "serialPersistentFields", type := (.array (.object "java/io/ObjectStreamField")), accessFlags := 26, slot := 2, constantValue := 0 }, { name := "REPL", type := .char, accessFlags := 26, slot := 3, constantValue := 0 }, { name := "CASE_INSENSITIVE_ORDER", type := (.object "java/util/Comparator"), accessFlags := 25, slot := 4, constantValue := 0 }, { name := "LATIN1", type := .byte, accessFlags := 24, slot := 5, constantValue := 0 }, { name := "UTF16", type := .byte, accessFlags := 24, slot := 6, constantValue := 0 }]
  methods := #[k9m0, k9m1]
  instanceTypes := #[(.array .byte), .byte, .int, .boolean]
  staticTypes := #[.long, .boolean, (.array (.object "java/io/ObjectStreamField")), .char, (.object "java/util/Comparator"), .byte, .byte]
  resolved := Array.replicate 1451 none
  statics := some 1 }

def pool10 : Array CpInfo := pool [(4, .class_ 6), (1, u "java/lang/Object"), (0, u "<init>"), (0, u "()V"), (5, .class_ 16), (1, u "java/lang/StringLatin1"), (104, u "$assertionsDisabled"), (0, u "Z"), (98, .class_ 223), (1, u "java/lang/StringLatin1$LinesSpliterator"), (57, u "equals"), (0, u "([B[B)Z"), (107, .class_ 391), (0, u "java/lang/StringLatin1$CharsSpliterator")] 3

def k10m0 : Method := { name := "<init>", desc := "()V", sig := { parameters := [], returnType := none }, accessFlags := 0, code := none }
def k10c1 : Code := { maxStack := 3, maxLocals := 3, code := jdk_43_method_13_code, exceptionTable := #[], attributes := #[] }
def k10m1 : Method := { name := "equals", desc := "([B[B)Z", sig := { parameters := [(.array .byte), (.array .byte)], returnType := some .boolean }, accessFlags := 9, code := some k10c1 }
/-- java/lang/StringLatin1 -/
def k10 : Class := { plain "java/lang/StringLatin1" (some 0) with
  accessFlags := 48
  interfaces := #[]
  cf := some (fileOf pool10 14 #[.nestMembers #[390, 221]] #[{ accessFlags := 0, nameIndex := 7, descriptorIndex := 8, attributes := #[] }, { accessFlags := 9, nameIndex := 281, descriptorIndex := 282, attributes := #[] }] 48 4 #[] #[{ accessFlags := 4120, nameIndex := 121, descriptorIndex := 122, attributes := #[] }])
  fields := #[{ name := "$assertionsDisabled", type := .boolean, accessFlags := 4120, slot := 0, constantValue := 0 }]
  methods := #[k10m0, k10m1]
  instanceTypes := #[]
  staticTypes := #[.boolean]
  resolved := Array.replicate 395 none
  statics := none }

def pool11 : Array CpInfo := pool [(2, .class_ 4), (1, u "java/lang/Object"), (0, u "<init>"), (0, u "()V"), (17, .class_ 26), (1, u "jdk/internal/util/Preconditions"), (28, .class_ 56), (0, u "jdk/internal/util/Preconditions$4"), (57, .class_ 115), (0, u "jdk/internal/util/Preconditions$1"), (7, u "SIOOBE_FORMATTER"), (0, u "Ljava/util/function/BiFunction;"), (0, .class_ 126), (0, u "jdk/internal/util/Preconditions$2"), (3, u "AIOOBE_FORMATTER"), (0, .class_ 132), (0, u "jdk/internal/util/Preconditions$3"), (3, u "IOOBE_FORMATTER")] 57

def k11m0 : Method := { name := "<init>", desc := "()V", sig := { parameters := [], returnType := none }, accessFlags := 1, code := none }
/-- jdk/internal/util/Preconditions -/
def k11 : Class := { plain "jdk/internal/util/Preconditions" (some 0) with
  accessFlags := 33
  interfaces := #[]
  cf := some (fileOf pool11 24 #[.nestMembers #[55, 131, 125, 114]] #[{ accessFlags := 1, nameIndex := 5, descriptorIndex := 6, attributes := #[] }] 33 2 #[] #[{ accessFlags := 25, nameIndex := 123, descriptorIndex := 124, attributes := #[] }, { accessFlags := 25, nameIndex := 130, descriptorIndex := 124, attributes := #[] }, { accessFlags := 25, nameIndex := 136, descriptorIndex := 124, attributes := #[] }])
  fields := #[{ name := "SIOOBE_FORMATTER", type := (.object "java/util/function/BiFunction"), accessFlags := 25, slot := 0, constantValue := 0 }, { name := "AIOOBE_FORMATTER", type := (.object "java/util/function/BiFunction"), accessFlags := 25, slot := 1, constantValue := 0 }, { name := "IOOBE_FORMATTER", type := (.object "java/util/function/BiFunction"), accessFlags := 25, slot := 2, constantValue := 0 }]
  methods := #[k11m0]
  instanceTypes := #[]
  staticTypes := #[(.object "java/util/function/BiFunction"), (.object "java/util/function/BiFunction"), (.object "java/util/function/BiFunction")]
  resolved := Array.replicate 194 none
  statics := some 2 }

def pool12 : Array CpInfo := pool [(9, u "<init>"), (6, .class_ 18), (1, u "java/lang/Object"), (0, u "()V"), (1, .class_ 23), (1, u "jdk/internal/util/ArraysSupport"), (0, u "LOG2_ARRAY_LONG_INDEX_SCALE"), (0, u "I"), (2, u "U"), (0, u "Ljdk/internal/misc/Unsafe;"), (8, u "BIG_ENDIAN"), (0, u "Z"), (8, u "LOG2_BYTE_BIT_SIZE"), (4, u "LOG2_ARRAY_INT_INDEX_SCALE"), (54, u "JLA"), (0, u "Ljdk/internal/access/JavaLangAccess;"), (11, u "LOG2_ARRAY_BOOLEAN_INDEX_SCALE"), (9, u "LOG2_ARRAY_BYTE_INDEX_SCALE"), (5, u "LOG2_ARRAY_CHAR_INDEX_SCALE"), (5, u "LOG2_ARRAY_SHORT_INDEX_SCALE"), (18, u "LOG2_ARRAY_FLOAT_INDEX_SCALE"), (24, u "LOG2_ARRAY_DOUBLE_INDEX_SCALE"), (89, u "T_BOOLEAN"), (2, u "T_CHAR"), (1, u "T_FLOAT"), (1, u "T_DOUBLE"), (1, u "T_BYTE"), (1, u "T_SHORT"), (1, u "T_INT"), (1, u "T_LONG"), (1, u "SOFT_MAX_ARRAY_LENGTH")] 83

def k12m0 : Method := { name := "<init>", desc := "()V", sig := { parameters := [], returnType := none }, accessFlags := 2, code := none }
/-- jdk/internal/util/ArraysSupport -/
def k12 : Class := { plain "jdk/internal/util/ArraysSupport" (some 0) with
  accessFlags := 33
  interfaces := #[]
  cf := some (fileOf pool12 21 #[] #[{ accessFlags := 2, nameIndex := 9, descriptorIndex := 19, attributes := #[] }] 33 16 #[] #[{ accessFlags := 24, nameIndex := 28, descriptorIndex := 29, attributes := #[] }, { accessFlags := 26, nameIndex := 38, descriptorIndex := 39, attributes := #[] }, { accessFlags := 25, nameIndex := 121, descriptorIndex := 25, attributes := #[] }, { accessFlags := 25, nameIndex := 131, descriptorIndex := 25, attributes := #[] }, { accessFlags := 25, nameIndex := 137, descriptorIndex := 25, attributes := #[] }, { accessFlags := 25, nameIndex := 143, descriptorIndex := 25, attributes := #[] }, { accessFlags := 25, nameIndex := 53, descriptorIndex := 25, attributes := #[] }, { accessFlags := 25, nameIndex := 24, descriptorIndex := 25, attributes := #[] }, { accessFlags := 25, nameIndex := 162, descriptorIndex := 25, attributes := #[] }, { accessFlags := 25, nameIndex := 187, descriptorIndex := 25, attributes := #[] }, { accessFlags := 26, nameIndex := 48, descriptorIndex := 25, attributes := #[] }, { accessFlags := 25, nameIndex := 277, descriptorIndex := 25, attributes := #[] }, { accessFlags := 25, nameIndex := 280, descriptorIndex := 25, attributes := #[] }, { accessFlags := 25, nameIndex := 282, descriptorIndex := 25, attributes := #[] }, { accessFlags := 25, nameIndex := 284, descriptorIndex := 25, attributes := #[] }, { accessFlags := 25, nameIndex := 286, descriptorIndex := 25, attributes := #[] }, { accessFlags := 25, nameIndex := 288, descriptorIndex := 25, attributes := #[] }, { accessFlags := 25, nameIndex := 290, descriptorIndex := 25, attributes := #[] }, { accessFlags := 25, nameIndex := 292, descriptorIndex := 25, attributes := #[] }, { accessFlags := 26, nameIndex := 108, descriptorIndex := 109, attributes := #[] }, { accessFlags := 25, nameIndex := 294, descriptorIndex := 25, attributes := #[] }])
  fields := #[{ name := "U", type := (.object "jdk/internal/misc/Unsafe"), accessFlags := 24, slot := 0, constantValue := 0 }, { name := "BIG_ENDIAN", type := .boolean, accessFlags := 26, slot := 1, constantValue := 0 }, { name := "LOG2_ARRAY_BOOLEAN_INDEX_SCALE", type := .int, accessFlags := 25, slot := 2, constantValue := 0 }, { name := "LOG2_ARRAY_BYTE_INDEX_SCALE", type := .int, accessFlags := 25, slot := 3, constantValue := 0 }, { name := "LOG2_ARRAY_CHAR_INDEX_SCALE", type := .int, accessFlags := 25, slot := 4, constantValue := 0 }, { name := "LOG2_ARRAY_SHORT_INDEX_SCALE", type := .int, accessFlags := 25, slot := 5, constantValue := 0 }, { name := "LOG2_ARRAY_INT_INDEX_SCALE", type := .int, accessFlags := 25, slot := 6, constantValue := 0 }, { name := "LOG2_ARRAY_LONG_INDEX_SCALE", type := .int, accessFlags := 25, slot := 7, constantValue := 0 }, { name := "LOG2_ARRAY_FLOAT_INDEX_SCALE", type := .int, accessFlags := 25, slot := 8, constantValue := 0 }, { name := "LOG2_ARRAY_DOUBLE_INDEX_SCALE", type := .int, accessFlags := 25, slot := 9, constantValue := 0 }, { name := "LOG2_BYTE_BIT_SIZE", type := .int, accessFlags := 26, slot := 10, constantValue := 0 }, { name := "T_BOOLEAN", type := .int, accessFlags := 25, slot := 11, constantValue := 0 }, { name := "T_CHAR", type := .int, accessFlags := 25, slot := 12, constantValue := 0 }, { name := "T_FLOAT", type := .int, accessFlags := 25, slot := 13, constantValue := 0 }, { name := "T_DOUBLE", type := .int, accessFlags := 25, slot := 14, constantValue := 0 }, { name := "T_BYTE", type := .int, accessFlags := 25, slot := 15, constantValue := 0 }, { name := "T_SHORT", type := .int, accessFlags := 25, slot := 16, constantValue := 0 }, { name := "T_INT", type := .int, accessFlags := 25, slot := 17, constantValue := 0 }, { name := "T_LONG", type := .int, accessFlags := 25, slot := 18, constantValue := 0 }, { name := "JLA", type := (.object "jdk/internal/access/JavaLangAccess"), accessFlags := 26, slot := 19, constantValue := 0 }, { name := "SOFT_MAX_ARRAY_LENGTH", type := .int, accessFlags := 25, slot := 20, constantValue := 0 }]
  methods := #[k12m0]
  instanceTypes := #[]
  staticTypes := #[(.object "jdk/internal/misc/Unsafe"), .boolean, .int, .int, .int, .int, .int, .int, .int, .int, .int, .int, .int, .int, .int, .int, .int, .int, .int, (.object "jdk/internal/access/JavaLangAccess"), .int]
  resolved := Array.replicate 378 none
  statics := none }

def pool13 : Array CpInfo := pool [(1, u "java/lang/Cloneable"), (0, .class_ 1), (0, u "java/lang/Object"), (0, .class_ 3)] 3

/-- java/lang/Cloneable -/
def k13 : Class := { plain "java/lang/Cloneable" (some 0) with
  accessFlags := 1537
  interfaces := #[]
  cf := some (fileOf pool13 2 #[] #[] 1537 4 #[] #[])
  fields := #[]
  methods := #[]
  instanceTypes := #[]
  staticTypes := #[]
  resolved := Array.replicate 8 none
  statics := none }

/-- the primitive byte -/
def k14 : Class := { plain "byte" none with kind := .primitive 'B', accessFlags := 0x411 }
/-- [B -/
def k15 : Class := { plain "[B" (some 0) with kind := .array 14 .byte, interfaces := #[13, 4], accessFlags := 1041 }

/-- the primitive int -/
def k16 : Class := { plain "int" none with kind := .primitive 'I', accessFlags := 0x411 }
/-- [I -/
def k17 : Class := { plain "[I" (some 0) with kind := .array 16 .int, interfaces := #[13, 4], accessFlags := 1041 }

def heap : Heap := #[{ cls := 6, slots := #[.ref 5, .ref 8, .null], vm := .statics 6 },
  { cls := 9, slots := #[.long 0, .int 1, .null, .int 0, .null, .int 0, .int 0], vm := .statics 9 },
  { cls := 11, slots := #[.null, .null, .null], vm := .statics 11 },
  { cls := 15, slots := #[.int 80, .int 114, .int 101, .int 80, .int 97, .int 105, .int 100], vm := .none },
  { cls := 9, slots := #[.ref 3, .int 0, .int 0, .int 0], vm := .none },
  { cls := 6, slots := #[.null, .int 0, .int 0, .ref 4], vm := .none },
  { cls := 15, slots := #[.int 80, .int 111, .int 115, .int 116, .int 80, .int 97, .int 105, .int 100], vm := .none },
  { cls := 9, slots := #[.ref 6, .int 0, .int 0, .int 0], vm := .none },
  { cls := 6, slots := #[.null, .int 1, .int 0, .ref 7], vm := .none }]
def classes : Array Class := #[k0, k1, k2, k3, k4, k5, k6, k7, k8, k9, k10, k11, k12, k13, k14, k15, k16, k17]
def interned : List (Array UInt16 × Addr) := []
def slotsUsed : Nat := 44
def theMethod : MethodId := ⟨1, 1⟩
def args0 : Array Value := #[.int 5]
def aboutOver (below : List Frame) : State where
  vm := { classes := classes, interned := interned.toArray }
  heap := heap
  slotsUsed := slotsUsed
  threads := #[{ frames := .invoking theMethod args0 :: below }]
def below0 : List Frame := [.native { method := ⟨0, 0⟩, args := #[] }]
def about1 : State := aboutOver below0
def p0 : Program := .bare "" "" ""
def e0 : Env := launch0.env 0 0 0
theorem w_frames : about1.frames = Frame.invoking theMethod args0 :: below0 := rfl
set_option maxRecDepth 65536 in
theorem w_args : argsFit about1.vm theMethod args0 = true := by decide +kernel
set_option maxRecDepth 65536 in
theorem w_heap : heapFits about1 = true := by decide +kernel
set_option maxRecDepth 65536 in
theorem w_runnable : about1.curStatus? = some .runnable := by decide +kernel
set_option maxRecDepth 65536 in
theorem w_alone : about1.alone = true := by decide +kernel
set_option maxRecDepth 65536 in
theorem w_named : about1.methodNamed? x = some theMethod := by decide +kernel
set_option maxRecDepth 65536 in
theorem w_hears : about1.hears theMethod below0 = true := by decide +kernel
set_option maxRecDepth 65536 in
theorem w_ripe : about1.ripe theMethod args0 below0 = true := by decide +kernel
theorem w_running : about1.status = .running := rfl
set_option maxRecDepth 65536 in
theorem w_room : about1.hasRoom e0.platform room_1 = true :=
  launch0.hasRoom_least _ room_1 (by decide +kernel) (by decide +kernel) (by decide +kernel) (by decide +kernel) (by decide +kernel) (by decide +kernel)
theorem allAtoms_all (ts : List Jvm.Cond) (a : Array Jvm.Value) (st : Jvm.State) : (allAtoms ts).before a st = ts.all (fun c => c.before a st) := by
  induction ts with
  | nil => rfl
  | cons c t ih =>
    show (Jvm.Cond.and c (allAtoms t)).before a st = _
    rw [Jvm.Cond.before_and, ih, List.all_cons]
def words1 : List Jvm.Cond := Jvm.Cond.code x code maxLocals ret :: tables_1
/-- a 'code' word, met by the world's own term for the bytes: nothing is compared byte by byte -/
theorem code_word {y : MethodName} {bytes : ByteArray} {mx : Nat} {rt : Option FieldType} {a : Array Value} {s : State} {m : MethodId} {meth : Method} {c : Code} (h1 : s.methodNamed? y = some m) (h2 : s.vm.method? m = some meth) (h3 : meth.code = some c) (h4 : c.code = bytes)
    (h5 : (c.maxLocals == mx && c.exceptionTable.isEmpty && decide (c.maxStack ≤ mostOperands) && decide (meth.sig.returnType = rt) && !meth.locks && decide (parseMethodDescriptor y.desc = some meth.sig)) = true) : (Jvm.Cond.code y bytes mx rt).before a s = true := by
  simp only [Bool.and_eq_true, beq_iff_eq, Bool.not_eq_true', decide_eq_true_eq] at h5
  obtain ⟨⟨⟨⟨⟨g1, g2⟩, g3⟩, g4⟩, g5⟩, g6⟩ := h5
  simp [Cond.before, Cond.holds, Cond.value, h1, h2, h3, h4, g1, g2, g3, g4, g5, g6]
def isCode : Jvm.Cond → Bool
  | .code _ _ _ _ => true
  | _ => false
theorem all_split {L : List Jvm.Cond} {P : Jvm.Cond → Bool} (h1 : L.all (fun c => isCode c || P c) = true) (h2 : ∀ c ∈ L.filter isCode, P c = true) : L.all P = true := by
  refine List.all_eq_true.mpr fun c hc => ?_
  have h := List.all_eq_true.mp h1 c hc
  rcases Bool.eq_false_or_eq_true (isCode c) with hi | hi
  · exact h2 c (List.mem_filter.mpr ⟨hc, hi⟩)
  · simpa [hi] using h
set_option maxRecDepth 65536 in
theorem w_c0 : (Jvm.Cond.code x code maxLocals ret).before args0 about1 = true := code_word (m := ⟨1, 1⟩) (meth := k1m1) (c := k1c1) (by decide +kernel) rfl rfl rfl (by decide +kernel)
set_option maxRecDepth 65536 in
theorem w_c1 : (Jvm.Cond.code ({ cls := "com/example/standing_order/standingorder/model/ChargeType", name := "hasExpiry", desc := "()Z" } : Jvm.MethodName) prog_23_method_5_code (1 : Nat) (Option.some Jvm.ClassFile.FieldType.boolean)).before args0 about1 = true := code_word (m := ⟨6, 1⟩) (meth := k6m1) (c := k6c1) (by decide +kernel) rfl rfl rfl (by decide +kernel)
set_option maxRecDepth 65536 in
theorem w_c2 : (Jvm.Cond.code ({ cls := "com/example/standing_order/standingorder/model/ChargeType", name := "apiName", desc := "()Ljava/lang/String;" } : Jvm.MethodName) prog_23_method_4_code (1 : Nat) (Option.some (Jvm.ClassFile.FieldType.object "java/lang/String"))).before args0 about1 = true := code_word (m := ⟨6, 0⟩) (meth := k6m0) (c := k6c0) (by decide +kernel) rfl rfl rfl (by decide +kernel)
set_option maxRecDepth 65536 in
theorem w_c3 : (Jvm.Cond.code ({ cls := "java/lang/String", name := "equals", desc := "(Ljava/lang/Object;)Z" } : Jvm.MethodName) jdk_42_method_66_code (3 : Nat) (Option.some Jvm.ClassFile.FieldType.boolean)).before args0 about1 = true := code_word (m := ⟨9, 1⟩) (meth := k9m1) (c := k9c1) (by decide +kernel) rfl rfl rfl (by decide +kernel)
set_option maxRecDepth 65536 in
theorem w_c4 : (Jvm.Cond.code ({ cls := "java/lang/StringLatin1", name := "equals", desc := "([B[B)Z" } : Jvm.MethodName) jdk_43_method_13_code (3 : Nat) (Option.some Jvm.ClassFile.FieldType.boolean)).before args0 about1 = true := code_word (m := ⟨10, 1⟩) (meth := k10m1) (c := k10c1) (by decide +kernel) rfl rfl rfl (by decide +kernel)
def codes1 : List Jvm.Cond := [Jvm.Cond.code x code maxLocals ret, Jvm.Cond.code ({ cls := "com/example/standing_order/standingorder/model/ChargeType", name := "hasExpiry", desc := "()Z" } : Jvm.MethodName) prog_23_method_5_code (1 : Nat) (Option.some Jvm.ClassFile.FieldType.boolean), Jvm.Cond.code ({ cls := "com/example/standing_order/standingorder/model/ChargeType", name := "apiName", desc := "()Ljava/lang/String;" } : Jvm.MethodName) prog_23_method_4_code (1 : Nat) (Option.some (Jvm.ClassFile.FieldType.object "java/lang/String")), Jvm.Cond.code ({ cls := "java/lang/String", name := "equals", desc := "(Ljava/lang/Object;)Z" } : Jvm.MethodName) jdk_42_method_66_code (3 : Nat) (Option.some Jvm.ClassFile.FieldType.boolean), Jvm.Cond.code ({ cls := "java/lang/StringLatin1", name := "equals", desc := "([B[B)Z" } : Jvm.MethodName) jdk_43_method_13_code (3 : Nat) (Option.some Jvm.ClassFile.FieldType.boolean)]
set_option maxRecDepth 65536 in
theorem codes_eq : words1.filter isCode = codes1 := rfl
theorem w_codes : ∀ c ∈ words1.filter isCode, c.before args0 about1 = true := by
  rw [codes_eq]
  intro c hc
  simp only [codes1, List.mem_cons, List.not_mem_nil, or_false] at hc
  rcases hc with rfl | rfl | rfl | rfl | rfl
  · exact w_c0
  · exact w_c1
  · exact w_c2
  · exact w_c3
  · exact w_c4
set_option maxRecDepth 65536 in
theorem w_t1 : (words1.take 24).all (fun c => isCode c || c.before args0 about1) = true := by decide +kernel
set_option maxRecDepth 65536 in
theorem w_t2 : (words1.drop 24).all (fun c => isCode c || c.before args0 about1) = true := by decide +kernel
theorem w_tables : (allAtoms (Jvm.Cond.code x code maxLocals ret :: tables_1)).before args0 about1 = true := by
  rw [allAtoms_all]
  show words1.all (fun c => c.before args0 about1) = true
  refine all_split ?_ w_codes
  rw [← List.take_append_drop 24 words1, List.all_append, w_t1, w_t2]
  rfl
set_option maxRecDepth 65536 in
theorem w_rest : rest_1_c.before args0 about1 = true := by decide +kernel
set_option maxRecDepth 65536 in
theorem w_case : (Jvm.Cond.and given_1 narrow_1).before args0 about1 = true := by decide +kernel
set_option maxRecDepth 65536 in
theorem w_consts : constsHeld consts_1 about1 := Jvm.Lit.constsHeldB_iff.mp (by decide +kernel)
theorem w_applies : (headSpec (Jvm.Cond.code x code maxLocals ret :: tables_1) room_1).applies x e0.platform about1 = true :=
  (Spec.applies_iff w_frames).mpr ⟨w_running, w_runnable, w_alone, w_named, w_hears, w_ripe, w_room, w_tables⟩
theorem atStart : AtStart classFile x code maxLocals ret World_1 tables_1 room_1 Calls_1 rest_1 Pre_1 launch0 p0 e0 about1 theMethod args0 below0 :=
  ⟨lists_1, trivial, launch0.admits_env _ _ _, launch0.least_env, fairChoices_fair.cas, fairChoices_fair.clock, w_frames, w_args, w_heap, w_applies, ⟨w_consts, trivial⟩, w_rest, w_case⟩
end start1
theorem witness_1 : WitnessClaimed_1 := ⟨start1.p0, start1.e0, start1.about1, start1.theMethod, start1.args0, start1.below0, start1.atStart⟩
end Jvm.Pilot.@@N@@
