import JvmDerived
import JvmDerived.Pilot.@@N@@Statement
import JvmDerived.Pilot.@@N@@Code
set_option linter.unusedVariables false
set_option linter.unusedSimpArgs false
@@BLOCK:NumsL.lean.txt@@
namespace Jvm.RoadKit
open Sem ClassFile Op Lib Jvm.Stand Jvm.Free Jvm.LawKit
section New
variable {p : Program} {l : Launch} {e : Env} {R : Room} {s : State} {m : MethodId} {args : Array Value} {below : List Frame} {meth : Method} {c : Code} {T : State} {locs : List Loc} {cells slots : Nat}
theorem retI (X : Stand p l e R s m args below meth c T locs cells slots) (hx : p.tables.exec = Jvm.exec) {pc : Nat} {Ls : Array Slot} {z : Int32} {rest : List Value} (hret : meth.sig.returnType = some .int) (hd : decode c.code pc = .ok (.ireturn, 1)) {fs : List Frame}
    (hl : ∀ (f : JFrame) (acts : List Action), f.method = m → f.locked = none → f.entered = [] → (doReturn e (T.setTop f) acts (some (.int z))).1 = T.setFrames fs) : Steps p.tables e below (T.setTop (mkF m pc Ls (.int z :: rest))) (T.setFrames fs) := by
  have hm' : T.vm.method? m = some meth := X.method'
  have hn : narrow .int (.int z) = .int z := rfl
  show Steps p.tables e below (T.setTop { method := m, pc := pc, locals := Ls, stack := _ :: rest, locked := none }) _
  jvm_step X.here [X.here.top, hx, hd, hm', hret, hn]
  first | (intro acts; rw [hl _ acts rfl rfl rfl]) | rw [hl _ _ rfl rfl rfl]
  exact Steps.refl _
end New
end Jvm.RoadKit
namespace Jvm.OwnRuns
open Jvm Sem ClassFile Op Lib Jvm.Stand Jvm.Free Jvm.LawKit Jvm.RoadKit
/-- from the state T the invocation comes to its end, and there Φ holds -/
def Runs (tb : Tables) (e : Env) (below : List Frame) (Φ : Outcome → State → Prop) (T : State) : Prop := ∃ s₂ o, Steps tb e below T s₂ ∧ s₂.status = .running ∧ Ended s₂ below o ∧ Φ o s₂
abbrev Phi (s : State) (Q : Option Value → Heap → List Loc → Prop) (k n : Nat) (o : Outcome) (U' : State) : Prop := ∃ v L, o = .returned v ∧ Q v U'.heap L ∧ FrameEnd s o U' L k n
theorem Runs.st {tb : Tables} {e : Env} {below : List Frame} {Φ : Outcome → State → Prop} {T T' : State} (h : ∀ t, Steps tb e below T' t → Steps tb e below T t) (r : Runs tb e below Φ T') : Runs tb e below Φ T := by
  obtain ⟨a, o, h1, h2⟩ := r
  exact ⟨a, o, h a h1, h2⟩
theorem Runs.tr {tb : Tables} {e : Env} {below : List Frame} {Φ : Outcome → State → Prop} {T T' : State} (h : Steps tb e below T T') (r : Runs tb e below Φ T') : Runs tb e below Φ T := Runs.st (fun _ k => h.trans k) r
section Laws
variable {p : Program} {l : Launch} {e : Env} {R : Room} {s : State} {m : MethodId} {args : Array Value} {below : List Frame} {meth : Method} {c : Code} {T : State} {locs : List Loc} {cells slots : Nat}
theorem Runs.ret (X : Stand p l e R s m args below meth c T locs cells slots) (hlk : meth.locks = false) {v : Option Value} (hv : meth.sig.returnType = none → v = none) {Q : Option Value → Heap → List Loc → Prop} {k n : Nat} (hk : cells ≤ k) (hn : slots ≤ n) (hQ : Q v T.heap locs) {T0 : State}
    (hst : ∀ fs : List Frame, (∀ (f : JFrame) (acts : List Action), f.method = m → f.locked = none → f.entered = [] → (doReturn e (T.setTop f) acts v).1 = T.setFrames fs) → Steps p.tables e below T0 (T.setFrames fs)) : Runs p.tables e below (Phi s Q k n) T0 := by
  obtain ⟨fs, hr, hrun, hended, hW, hsame⟩ := X.leave hv hlk
  exact ⟨_, _, hst fs hr, hrun, hended, _, _, rfl, hQ, ⟨_, rfl⟩, hW, hsame.mono hk hn⟩
theorem wider (X : Stand p l e R s m args below meth c T locs cells slots) {c' s' : Nat} (hc : cells ≤ c') (hs : slots ≤ s') : Stand p l e R s m args below meth c T locs c' s' := { X with same := X.same.mono hc hs }
abbrev PhiW (s : State) (Q : Option Value → Heap → List Loc → Prop) (k n : Nat) (o : Outcome) (U' : State) : Prop := ∃ v L, o = .returned v ∧ Q v U'.heap L ∧ ReturnedEndW s o U' L k n
theorem Runs.retW {vm₁ : Vm} (X : Stand p l e R (s.setVm vm₁) m args below meth c T locs cells slots) {n1 : Nat} (hS : s.Since vm₁ n1) (hk1 : n1 ≤ T.heap.size) (hlk : meth.locks = false) {v : Option Value} (hv : meth.sig.returnType = none → v = none) {Q : Option Value → Heap → List Loc → Prop} {k n : Nat} (hk : cells ≤ k) (hn : slots ≤ n) (hQ : Q v T.heap locs) {T0 : State}
    (hst : ∀ fs : List Frame, (∀ (f : JFrame) (acts : List Action), f.method = m → f.locked = none → f.entered = [] → (doReturn e (T.setTop f) acts v).1 = T.setFrames fs) → Steps p.tables e below T0 (T.setFrames fs)) : Runs p.tables e below (PhiW s Q k n) T0 := by
  obtain ⟨fs, hr, hrun, hended, hW⟩ := (wider X hk hn).leaveW hS hk1 hv hlk
  exact ⟨_, _, hst fs hr, hrun, hended, _, _, rfl, hQ, hW⟩
abbrev PhiH (Z : State) (EL : List (String × Nat)) (s : State) (Q : Option Value → Heap → List Loc → Prop) (k n : Nat) (o : Outcome) (U' : State) : Prop := ∃ v L, o = .returned v ∧ Q v U'.heap L ∧ CHr Z EL s.vm s.heap U'.vm U'.heap ∧ ReturnedEndW s o U' L k n
theorem Runs.retH {Z : State} {EL : List (String × Nat)} {vm₁ : Vm} (X : Stand p l e R (s.setVm vm₁) m args below meth c T locs cells slots) {n1 : Nat} (hS : s.Since vm₁ n1) (hk1 : n1 ≤ T.heap.size) (hlk : meth.locks = false) {v : Option Value} (hv : meth.sig.returnType = none → v = none) {Q : Option Value → Heap → List Loc → Prop} {k n : Nat} (hk : cells ≤ k) (hn : slots ≤ n) (hQ : Q v T.heap locs) (hC : CHr Z EL s.vm s.heap T.vm T.heap) {T0 : State}
    (hst : ∀ fs : List Frame, (∀ (f : JFrame) (acts : List Action), f.method = m → f.locked = none → f.entered = [] → (doReturn e (T.setTop f) acts v).1 = T.setFrames fs) → Steps p.tables e below T0 (T.setFrames fs)) : Runs p.tables e below (PhiH Z EL s Q k n) T0 := by
  obtain ⟨fs, hr, hrun, hended, hW⟩ := (wider X hk hn).leaveW hS hk1 hv hlk
  exact ⟨_, _, hst fs hr, hrun, hended, _, _, rfl, hQ, hC, hW⟩
end Laws
section Facts
variable {Z : State} {h h' : Heap} {a : Addr} {C n d : String} {v : Value} {bo : Bool} {ws : List Addr}
theorem Ins_keep (F : Ins Z h a C bo) (K : Keep h h' ws) : Ins Z h' a C bo := by
  obtain ⟨cell, cT, h1, h2, h3⟩ := F
  obtain ⟨c', e1, e2, e3, -⟩ := K.2.2 _ _ h1
  exact ⟨c', cT, e1, h2, by rw [e2, e3]; exact h3⟩
theorem narrow_ref {t : FieldType} {v : Value} (h : v.isRef = true) : narrow t v = v := by rcases ref_cases h with rfl | ⟨_, rfl⟩ <;> cases t <;> rfl
end Facts
end Jvm.OwnRuns
namespace Jvm.OwnRuns
open Jvm Sem ClassFile Op Lib Jvm.Stand Jvm.Free Jvm.LawKit Jvm.RoadKit
section Words
variable {args : Array Value} {s : State} {t : Term}
theorem val_int {k : Int32} (h : (Cond.eq t (.int k)).value args s none s [] = some true) : t.eval args s none [] s = some (.int k) := Cond.eq_int (Cond.before_iff.mpr h) rfl
theorem the_static {C n d K : String} (h : (Cond.exactly (.static C n d) K).value args s none s [] = some true) (h1 : (Cond.initialized C).before args s = true) (h2 : (Cond.laysStatic C n d).before args s = true) :
    ∃ a, (Term.static C n d).eval args s none [] s = some (.ref a) ∧ Sta s s.heap C n d (.ref a) ∧ Exa s s.heap a K := by
  obtain ⟨a, e⟩ := exa_v h
  exact ⟨a, e, Sta.start e (Or.inr ⟨h1, h2⟩), Exa.start e h⟩
theorem the_int {C n d : String} {a : Addr} {k : Int32} (e : t.eval args s none [] s = some (.ref a)) (h : (Cond.eq (.field t C n d) (.int k)).value args s none s [] = some true) : Fld s s.heap a C n d (.int k) :=
  Fld.start ((fld_at e).symm.trans (val_int h))
theorem the_ref {C n d K : String} {a : Addr} (e : t.eval args s none [] s = some (.ref a)) (h : (Cond.exactly (.field t C n d) K).value args s none s [] = some true) :
    ∃ b, (Term.field t C n d).eval args s none [] s = some (.ref b) ∧ Fld s s.heap a C n d (.ref b) ∧ Exa s s.heap b K := by
  obtain ⟨b, eb⟩ := exa_v h
  exact ⟨b, eb, Fld.start ((fld_at e).symm.trans eb), Exa.start eb h⟩
theorem the_arr {C n d : String} {ty : FieldType} {a : Addr} (e : t.eval args s none [] s = some (.ref a)) (h : (Cond.arrayOf (.field t C n d) ty).value args s none s [] = some true) :
    ∃ b cl, (Term.field t C n d).eval args s none [] s = some (.ref b) ∧ Fld s s.heap a C n d (.ref b) ∧ Arr s s.heap b cl ty := by
  obtain ⟨b, eb⟩ := arr_v h
  obtain ⟨cl, A⟩ := Arr.start eb h
  exact ⟨b, cl, eb, Fld.start ((fld_at e).symm.trans eb), A⟩
theorem the_len {b : Addr} {cl : Cell} {ty : FieldType} {z : Int32} (e : t.eval args s none [] s = some (.ref b)) (A : Arr s s.heap b cl ty) (h : (Cond.eq (.length t) (.int z)).value args s none s [] = some true) : cl.slots.size < 2 ^ 31 ∧ cl.slots.size.toInt32 = z := by
  have hv := val_int h
  obtain ⟨x, c', e1, e2, -⟩ := Term.length_spec hv
  cases e.symm.trans e1
  have e3 := A.fin (Vm.Alike.refl _)
  cases e2.symm.trans e3
  have h31 := SBG.length_lt e1 e2 hv
  exact ⟨h31, Value.int.inj (Option.some.inj ((len_f e e3 h31).symm.trans hv))⟩
theorem the_elem {b : Addr} {cl : Cell} {ty : FieldType} {j k : Int32} (e : t.eval args s none [] s = some (.ref b)) (A : Arr s s.heap b cl ty) (h : (Cond.eq (.elem t (.int j)) (.int k)).value args s none s [] = some true) : cl.slots[j.toNatClampNeg]? = some (.int k) :=
  (elem_in (val_int h) e rfl A.1).2
end Words
end Jvm.OwnRuns
namespace Jvm.OwnRuns
open Jvm Sem ClassFile Op Lib Jvm.Stand Jvm.Free Jvm.LawKit Jvm.RoadKit
theorem fld_one {Z : State} {h : Heap} {a b d : Addr} {C n t : String} (F : Fld Z h a C n t (.ref b)) (G : Fld Z h a C n t (.ref d)) : b = d := by
  obtain ⟨c1, _, _, _, f1, h1, h2, -, -, -, -, h7⟩ := F
  obtain ⟨c2, _, _, _, f2, g1, g2, -, -, -, -, g7⟩ := G
  cases h1.symm.trans g1; cases h2.symm.trans g2
  exact Value.ref.inj (Option.some.inj (h7.symm.trans g7))
theorem arv_len {Z : State} {h : Heap} {a : Addr} {k k' : ClassId} {ty ty' : FieldType} {z z' : Int32} {vs vs' : List Value} {d d' : Value} (F : Arv Z h a k ty z vs d) (G : Arv Z h a k' ty' z' vs' d') : z = z' := by
  obtain ⟨c1, A1, -, S1, M1, -⟩ := F
  obtain ⟨c2, A2, -, S2, M2, -⟩ := G
  cases A1.1.symm.trans A2.1
  rw [← len_of S1 M1, ← len_of S2 M2]
end Jvm.OwnRuns
namespace Jvm.Pilot.@@N@@
open Jvm Jvm.ClassFile Sem Op Lib Jvm.Free Jvm.Stand Jvm.LawKit Jvm.RoadKit Bundle Jvm.OwnRuns Jvm.Pilot.@@N@@.Jvm.D
def Q_rmCA1 (Z : State) (a : Addr) (b : Addr) (c0 : Int32) (k1 k2 : ClassId) (h0 : Heap) (n0 : Nat) : Option Value → Heap → List Loc → Prop := (fun v h L => v = some (.int (1 : Int32)) ∧ Fr n0 L ∧ Keep h0 h [b] ∧ Arv Z h b k2 .byte (1 : Int32) [(.int (nar .byte (c0.toInt8.toInt32)))] (.int (0 : Int32)))
theorem pn_java_lang_StringUTF16 : plainName "java/lang/StringUTF16" = true := by first | (simp [plainName, overriddenIn]; done) | decide +kernel
theorem ef_jdk_52_method_21_RIRII (m : MethodId) (x0 : Addr) (x1 : Int32) (x2 : Addr) (x3 : Int32) (x4 : Int32)  : entryFrame m #[(.ref x0), (.int x1), (.ref x2), (.int x3), (.int x4)] 7 = mkF m 0 #[.val (.ref x0), .val (.int x1), .val (.ref x2), .val (.int x3), .val (.int x4), .unset, .unset] [] := by first | (simp [entryFrame, mkF, argsToLocals, Value.category]; done) | rfl
theorem d_jdk_52_method_21_0 : decode jdk_52_method_21_code 0 = .ok (.iconst 0, 1) := by decide +kernel
theorem d_jdk_52_method_21_1 : decode jdk_52_method_21_code 1 = .ok (.istore 5, 2) := by decide +kernel
theorem d_jdk_52_method_21_3 : decode jdk_52_method_21_code 3 = .ok (.iload 5, 2) := by decide +kernel
theorem d_jdk_52_method_21_5 : decode jdk_52_method_21_code 5 = .ok (.iload 4, 2) := by decide +kernel
theorem d_jdk_52_method_21_7 : decode jdk_52_method_21_code 7 = .ok (.if_icmp .ge 37, 3) := by decide +kernel
theorem d_jdk_52_method_21_10 : decode jdk_52_method_21_code 10 = .ok (.aload_n 0, 1) := by decide +kernel
theorem d_jdk_52_method_21_11 : decode jdk_52_method_21_code 11 = .ok (.iload_n 1, 1) := by decide +kernel
theorem d_jdk_52_method_21_12 : decode jdk_52_method_21_code 12 = .ok (.caload, 1) := by decide +kernel
theorem d_jdk_52_method_21_13 : decode jdk_52_method_21_code 13 = .ok (.istore 6, 2) := by decide +kernel
theorem d_jdk_52_method_21_15 : decode jdk_52_method_21_code 15 = .ok (.iload 6, 2) := by decide +kernel
theorem d_jdk_52_method_21_17 : decode jdk_52_method_21_code 17 = .ok (.sipush 255, 3) := by decide +kernel
theorem d_jdk_52_method_21_20 : decode jdk_52_method_21_code 20 = .ok (.if_icmp .le 6, 3) := by decide +kernel
theorem d_jdk_52_method_21_26 : decode jdk_52_method_21_code 26 = .ok (.aload_n 2, 1) := by decide +kernel
theorem d_jdk_52_method_21_27 : decode jdk_52_method_21_code 27 = .ok (.iload_n 3, 1) := by decide +kernel
theorem d_jdk_52_method_21_28 : decode jdk_52_method_21_code 28 = .ok (.iload 6, 2) := by decide +kernel
theorem d_jdk_52_method_21_30 : decode jdk_52_method_21_code 30 = .ok (.i2b, 1) := by decide +kernel
theorem d_jdk_52_method_21_31 : decode jdk_52_method_21_code 31 = .ok (.bastore, 1) := by decide +kernel
theorem d_jdk_52_method_21_32 : decode jdk_52_method_21_code 32 = .ok (.iinc 1 1, 3) := by decide +kernel
theorem d_jdk_52_method_21_35 : decode jdk_52_method_21_code 35 = .ok (.iinc 3 1, 3) := by decide +kernel
theorem d_jdk_52_method_21_38 : decode jdk_52_method_21_code 38 = .ok (.iinc 5 1, 3) := by decide +kernel
theorem d_jdk_52_method_21_41 : decode jdk_52_method_21_code 41 = .ok (.goto (-38), 3) := by decide +kernel
theorem d_jdk_52_method_21_44 : decode jdk_52_method_21_code 44 = .ok (.iload 4, 2) := by decide +kernel
theorem d_jdk_52_method_21_46 : decode jdk_52_method_21_code 46 = .ok (.ireturn, 1) := by decide +kernel
set_option maxRecDepth 65536 in
set_option maxHeartbeats 40000000 in
theorem rmCA1 (l : Launch) (Z : State) (a0 : Array Value) (hw : ∀ d ∈ tables_1, d.before a0 Z = true) (ws : List Jvm.Cond) (a : Addr) (b : Addr) (c0 : Int32) (k1 k2 : ClassId) (h0 : Heap) (n0 : Nat) (Z0 : n0 ≤ h0.size) (V_a : Arv Z h0 a k1 .char (1 : Int32) [(.int c0)] (.int (0 : Int32))) (V_b : Arv Z h0 b k2 .byte (1 : Int32) [(.int (0 : Int32))] (.int (0 : Int32))) (ne_a_b : a ≠ b) (g_b : n0 ≤ b) (u0 : ¬ ((255 : Int32) < c0)) :
    MetFree l (⟨"java/lang/StringUTF16", "compress", "([CI[BII)I"⟩ : MethodName) (head1 (Jvm.Cond.code (⟨"java/lang/StringUTF16", "compress", "([CI[BII)I"⟩ : MethodName) jdk_52_method_21_code 7 (some .int) :: ws) ({ frames := 0, cells := 0, slots := 0, locals := 0 } : Room)) (fun ar_ U => ar_ = #[(.ref a), (.int (0 : Int32)), (.ref b), (.int (0 : Int32)), (.int (1 : Int32))] ∧ Z.Warmed39 U.vm ∧ U.heap = h0) (fun _ _ _ _ _ => True) (fun _ U o U' => Phi U (Q_rmCA1 Z a b c0 k1 k2 h0 n0) ({ frames := 0, cells := 0, slots := 0, locals := 0 } : Room).cells ({ frames := 0, cells := 0, slots := 0, locals := 0 } : Room).slots o U') := by
  refine MetFree.of_bodySF (plainFor_of_name pn_java_lang_StringUTF16) hisR ?_
  intro p e s m args below meth c s₁ Bd hml0 hP hK
  obtain ⟨rfl, hZ, hh⟩ := hP
  have hx := Bd.exec
  have hby := Bd.bytes
  have hlk := Bd.notSynchronized
  have hml : c.maxLocals = 7 := hml0
  have hown : s.vm.findClass "java/lang/StringUTF16" = some m.cls := findClass_of_methodNamed Bd.named
  have hown0 := hown
  have hnm := (name_of_methodNamed Bd.named Bd.method).1
  have hret := Bd.returns
  have X0 : Stand p l e ({ frames := 0, cells := 0, slots := 0, locals := 0 } : Room) s m #[(.ref a), (.int (0 : Int32)), (.ref b), (.int (0 : Int32)), (.int (1 : Int32))] below meth c s₁ [] 0 0 := Stand.of_body Bd
  have e0 : s₁.heap = h0 := by rw [← hh, Bd.state]; rfl
  have N0 := Fr.nil n0
  have sz := Z0
  have K := Keep.refl h0 [b]
  show Runs p.tables e below (Phi s (Q_rmCA1 Z a b c0 k1 k2 h0 n0) ({ frames := 0, cells := 0, slots := 0, locals := 0 } : Room).cells ({ frames := 0, cells := 0, slots := 0, locals := 0 } : Room).slots) _
  refine Runs.st (fun t' k' => castTop (ef_jdk_52_method_21_RIRII m a (0 : Int32) b (0 : Int32) (1 : Int32) ) k') ?_
  show Runs p.tables e below _ (s₁.setTop (mkF m 0 #[.val (.ref a), .val (.int (0 : Int32)), .val (.ref b), .val (.int (0 : Int32)), .val (.int (1 : Int32)), .unset, .unset] []))
  refine Runs.st (fun t' k' => XS.iconst X0.here hx rfl (hb hby d_jdk_52_method_21_0) k') ?_
  show Runs p.tables e below _ (s₁.setTop (mkF m 1 #[.val (.ref a), .val (.int (0 : Int32)), .val (.ref b), .val (.int (0 : Int32)), .val (.int (1 : Int32)), .unset, .unset] [(.int (0 : Int32))]))
  refine Runs.st (fun t' k' => XS.istore X0.here hx rfl (hb hby d_jdk_52_method_21_1) rfl (l' := #[.val (.ref a), .val (.int (0 : Int32)), .val (.ref b), .val (.int (0 : Int32)), .val (.int (1 : Int32)), .val (.int (0 : Int32)), .unset]) rfl k') ?_
  show Runs p.tables e below _ (s₁.setTop (mkF m 3 #[.val (.ref a), .val (.int (0 : Int32)), .val (.ref b), .val (.int (0 : Int32)), .val (.int (1 : Int32)), .val (.int (0 : Int32)), .unset] []))
  refine Runs.st (fun t' k' => XS.iload X0.here hx rfl (hb hby d_jdk_52_method_21_3) rfl k') ?_
  show Runs p.tables e below _ (s₁.setTop (mkF m 5 #[.val (.ref a), .val (.int (0 : Int32)), .val (.ref b), .val (.int (0 : Int32)), .val (.int (1 : Int32)), .val (.int (0 : Int32)), .unset] [(.int (0 : Int32))]))
  refine Runs.st (fun t' k' => XS.iload X0.here hx rfl (hb hby d_jdk_52_method_21_5) rfl k') ?_
  show Runs p.tables e below _ (s₁.setTop (mkF m 7 #[.val (.ref a), .val (.int (0 : Int32)), .val (.ref b), .val (.int (0 : Int32)), .val (.int (1 : Int32)), .val (.int (0 : Int32)), .unset] [(.int (1 : Int32)), (.int (0 : Int32))]))
  refine Runs.st (fun t' k' => XS.icmpNo X0.here hx rfl (hb hby d_jdk_52_method_21_7) rfl (tlt (by decide)).2.1 k') ?_
  show Runs p.tables e below _ (s₁.setTop (mkF m 10 #[.val (.ref a), .val (.int (0 : Int32)), .val (.ref b), .val (.int (0 : Int32)), .val (.int (1 : Int32)), .val (.int (0 : Int32)), .unset] []))
  refine Runs.st (fun t' k' => XS.aloadN X0.here hx rfl (hb hby d_jdk_52_method_21_10) rfl rfl k') ?_
  show Runs p.tables e below _ (s₁.setTop (mkF m 11 #[.val (.ref a), .val (.int (0 : Int32)), .val (.ref b), .val (.int (0 : Int32)), .val (.int (1 : Int32)), .val (.int (0 : Int32)), .unset] [(.ref a)]))
  refine Runs.st (fun t' k' => XS.iloadN X0.here hx rfl (hb hby d_jdk_52_method_21_11) rfl k') ?_
  show Runs p.tables e below _ (s₁.setTop (mkF m 12 #[.val (.ref a), .val (.int (0 : Int32)), .val (.ref b), .val (.int (0 : Int32)), .val (.int (1 : Int32)), .val (.int (0 : Int32)), .unset] [(.int (0 : Int32)), (.ref a)]))
  obtain ⟨cl1_, Ar1_, -, S1_, M1_, Ha1_, -⟩ := id V_a
  have hin1_ : ¬ ((0 : Int32) < 0 ∨ cl1_.slots.size ≤ ((0 : Int32)).toNatClampNeg) := inb_of S1_ ⟨by decide, by decide⟩
  refine Runs.st (X0.caload hx (j := (0 : Int32)) (v := (.int c0)) (by rw [e0]; exact Ar1_.1) (State.isArrayOf_alike hZ.alike Ar1_.2.1) Ar1_.2.2 hin1_ (Ha1_.at hin1_ rfl) (g := (mkF m 12 #[.val (.ref a), .val (.int (0 : Int32)), .val (.ref b), .val (.int (0 : Int32)), .val (.int (1 : Int32)), .val (.int (0 : Int32)), .unset] [(.int (0 : Int32)), (.ref a)])) rfl rfl (hb hby d_jdk_52_method_21_12)) ?_
  show Runs p.tables e below _ (s₁.setTop (mkF m 13 #[.val (.ref a), .val (.int (0 : Int32)), .val (.ref b), .val (.int (0 : Int32)), .val (.int (1 : Int32)), .val (.int (0 : Int32)), .unset] [(.int c0)]))
  refine Runs.st (fun t' k' => XS.istore X0.here hx rfl (hb hby d_jdk_52_method_21_13) rfl (l' := #[.val (.ref a), .val (.int (0 : Int32)), .val (.ref b), .val (.int (0 : Int32)), .val (.int (1 : Int32)), .val (.int (0 : Int32)), .val (.int c0)]) rfl k') ?_
  show Runs p.tables e below _ (s₁.setTop (mkF m 15 #[.val (.ref a), .val (.int (0 : Int32)), .val (.ref b), .val (.int (0 : Int32)), .val (.int (1 : Int32)), .val (.int (0 : Int32)), .val (.int c0)] []))
  refine Runs.st (fun t' k' => XS.iload X0.here hx rfl (hb hby d_jdk_52_method_21_15) rfl k') ?_
  show Runs p.tables e below _ (s₁.setTop (mkF m 17 #[.val (.ref a), .val (.int (0 : Int32)), .val (.ref b), .val (.int (0 : Int32)), .val (.int (1 : Int32)), .val (.int (0 : Int32)), .val (.int c0)] [(.int c0)]))
  refine Runs.st (fun t' k' => XS.sipush X0.here hx rfl (hb hby d_jdk_52_method_21_17) k') ?_
  show Runs p.tables e below _ (s₁.setTop (mkF m 20 #[.val (.ref a), .val (.int (0 : Int32)), .val (.ref b), .val (.int (0 : Int32)), .val (.int (1 : Int32)), .val (.int (0 : Int32)), .val (.int c0)] [(.int (255 : Int32)), (.int c0)]))
  refine Runs.st (fun t' k' => XS.icmpYes X0.here hx rfl (pc0 := 20) (pc' := 26) rfl (hb hby d_jdk_52_method_21_20) rfl (flt u0).2.2.2 (by decide) (by decide) k') ?_
  show Runs p.tables e below _ (s₁.setTop (mkF m 26 #[.val (.ref a), .val (.int (0 : Int32)), .val (.ref b), .val (.int (0 : Int32)), .val (.int (1 : Int32)), .val (.int (0 : Int32)), .val (.int c0)] []))
  refine Runs.st (fun t' k' => XS.aloadN X0.here hx rfl (hb hby d_jdk_52_method_21_26) rfl rfl k') ?_
  show Runs p.tables e below _ (s₁.setTop (mkF m 27 #[.val (.ref a), .val (.int (0 : Int32)), .val (.ref b), .val (.int (0 : Int32)), .val (.int (1 : Int32)), .val (.int (0 : Int32)), .val (.int c0)] [(.ref b)]))
  refine Runs.st (fun t' k' => XS.iloadN X0.here hx rfl (hb hby d_jdk_52_method_21_27) rfl k') ?_
  show Runs p.tables e below _ (s₁.setTop (mkF m 28 #[.val (.ref a), .val (.int (0 : Int32)), .val (.ref b), .val (.int (0 : Int32)), .val (.int (1 : Int32)), .val (.int (0 : Int32)), .val (.int c0)] [(.int (0 : Int32)), (.ref b)]))
  refine Runs.st (fun t' k' => XS.iload X0.here hx rfl (hb hby d_jdk_52_method_21_28) rfl k') ?_
  show Runs p.tables e below _ (s₁.setTop (mkF m 30 #[.val (.ref a), .val (.int (0 : Int32)), .val (.ref b), .val (.int (0 : Int32)), .val (.int (1 : Int32)), .val (.int (0 : Int32)), .val (.int c0)] [(.int c0), (.int (0 : Int32)), (.ref b)]))
  refine Runs.st (fun t' k' => XS.i2b X0.here hx rfl (hb hby d_jdk_52_method_21_30) rfl k') ?_
  show Runs p.tables e below _ (s₁.setTop (mkF m 31 #[.val (.ref a), .val (.int (0 : Int32)), .val (.ref b), .val (.int (0 : Int32)), .val (.int (1 : Int32)), .val (.int (0 : Int32)), .val (.int c0)] [(.int (c0.toInt8.toInt32)), (.int (0 : Int32)), (.ref b)]))
  obtain ⟨cl2_, Ar2_, q2_, S2_, M2_, Ha2_, G2_⟩ := V_b
  have hin2_ : ¬ ((0 : Int32) < 0 ∨ cl2_.slots.size ≤ ((0 : Int32)).toNatClampNeg) := inb_of S2_ ⟨by decide, by decide⟩
  obtain ⟨T2_, h2_, X2_, e2_, W2_, st2_⟩ := stB X0 hx hZ e0 Ar2_ (j := (0 : Int32)) hin2_ (g := (mkF m 31 #[.val (.ref a), .val (.int (0 : Int32)), .val (.ref b), .val (.int (0 : Int32)), .val (.int (1 : Int32)), .val (.int (0 : Int32)), .val (.int c0)] [(.int (c0.toInt8.toInt32)), (.int (0 : Int32)), (.ref b)])) rfl rfl (hb hby d_jdk_52_method_21_31)
  refine Runs.st (st2_) ?_
  have V_b := Arv.set Ar2_ q2_ S2_ M2_ Ha2_ G2_ (fits_nar_byte _) W2_ 0 rfl (Nat.le_of_ble_eq_true rfl)
  replace V_a := V_a.other W2_ ne_a_b
  replace sz := Nat.le_trans sz (Keep.of_wr W2_).1
  have N2_ := Fr.snoc X2_ N0 g_b
  replace K := K.wr W2_ (Or.inl (List.mem_of_getElem? (i := 0) rfl))
  show Runs p.tables e below _ (T2_.setTop (mkF m 32 #[.val (.ref a), .val (.int (0 : Int32)), .val (.ref b), .val (.int (0 : Int32)), .val (.int (1 : Int32)), .val (.int (0 : Int32)), .val (.int c0)] []))
  refine Runs.st (fun t' k' => XS.iinc X2_.here hx rfl (hb hby d_jdk_52_method_21_32) rfl (l' := #[.val (.ref a), .val (.int ((0 : Int32) + (1 : Int32))), .val (.ref b), .val (.int (0 : Int32)), .val (.int (1 : Int32)), .val (.int (0 : Int32)), .val (.int c0)]) rfl k') ?_
  show Runs p.tables e below _ (T2_.setTop (mkF m 35 #[.val (.ref a), .val (.int ((0 : Int32) + (1 : Int32))), .val (.ref b), .val (.int (0 : Int32)), .val (.int (1 : Int32)), .val (.int (0 : Int32)), .val (.int c0)] []))
  refine Runs.st (fun t' k' => XS.iinc X2_.here hx rfl (hb hby d_jdk_52_method_21_35) rfl (l' := #[.val (.ref a), .val (.int ((0 : Int32) + (1 : Int32))), .val (.ref b), .val (.int ((0 : Int32) + (1 : Int32))), .val (.int (1 : Int32)), .val (.int (0 : Int32)), .val (.int c0)]) rfl k') ?_
  show Runs p.tables e below _ (T2_.setTop (mkF m 38 #[.val (.ref a), .val (.int ((0 : Int32) + (1 : Int32))), .val (.ref b), .val (.int ((0 : Int32) + (1 : Int32))), .val (.int (1 : Int32)), .val (.int (0 : Int32)), .val (.int c0)] []))
  refine Runs.st (fun t' k' => XS.iinc X2_.here hx rfl (hb hby d_jdk_52_method_21_38) rfl (l' := #[.val (.ref a), .val (.int ((0 : Int32) + (1 : Int32))), .val (.ref b), .val (.int ((0 : Int32) + (1 : Int32))), .val (.int (1 : Int32)), .val (.int ((0 : Int32) + (1 : Int32))), .val (.int c0)]) rfl k') ?_
  show Runs p.tables e below _ (T2_.setTop (mkF m 41 #[.val (.ref a), .val (.int ((0 : Int32) + (1 : Int32))), .val (.ref b), .val (.int ((0 : Int32) + (1 : Int32))), .val (.int (1 : Int32)), .val (.int ((0 : Int32) + (1 : Int32))), .val (.int c0)] []))
  rw [show ((0 : Int32) + (1 : Int32)) = (1 : Int32) from rfl]
  show Runs p.tables e below _ (T2_.setTop (mkF m 41 #[.val (.ref a), .val (.int (1 : Int32)), .val (.ref b), .val (.int (1 : Int32)), .val (.int (1 : Int32)), .val (.int (1 : Int32)), .val (.int c0)] []))
  refine Runs.st (fun t' k' => XS.goto X2_.here hx rfl (pc0 := 41) (pc' := 3) rfl (hb hby d_jdk_52_method_21_41) (by decide) (by decide) k') ?_
  show Runs p.tables e below _ (T2_.setTop (mkF m 3 #[.val (.ref a), .val (.int (1 : Int32)), .val (.ref b), .val (.int (1 : Int32)), .val (.int (1 : Int32)), .val (.int (1 : Int32)), .val (.int c0)] []))
  refine Runs.st (fun t' k' => XS.iload X2_.here hx rfl (hb hby d_jdk_52_method_21_3) rfl k') ?_
  show Runs p.tables e below _ (T2_.setTop (mkF m 5 #[.val (.ref a), .val (.int (1 : Int32)), .val (.ref b), .val (.int (1 : Int32)), .val (.int (1 : Int32)), .val (.int (1 : Int32)), .val (.int c0)] [(.int (1 : Int32))]))
  refine Runs.st (fun t' k' => XS.iload X2_.here hx rfl (hb hby d_jdk_52_method_21_5) rfl k') ?_
  show Runs p.tables e below _ (T2_.setTop (mkF m 7 #[.val (.ref a), .val (.int (1 : Int32)), .val (.ref b), .val (.int (1 : Int32)), .val (.int (1 : Int32)), .val (.int (1 : Int32)), .val (.int c0)] [(.int (1 : Int32)), (.int (1 : Int32))]))
  refine Runs.st (fun t' k' => XS.icmpYes X2_.here hx rfl (pc0 := 7) (pc' := 44) rfl (hb hby d_jdk_52_method_21_7) rfl (flt (by decide)).2.1 (by decide) (by decide) k') ?_
  show Runs p.tables e below _ (T2_.setTop (mkF m 44 #[.val (.ref a), .val (.int (1 : Int32)), .val (.ref b), .val (.int (1 : Int32)), .val (.int (1 : Int32)), .val (.int (1 : Int32)), .val (.int c0)] []))
  refine Runs.st (fun t' k' => XS.iload X2_.here hx rfl (hb hby d_jdk_52_method_21_44) rfl k') ?_
  show Runs p.tables e below _ (T2_.setTop (mkF m 46 #[.val (.ref a), .val (.int (1 : Int32)), .val (.ref b), .val (.int (1 : Int32)), .val (.int (1 : Int32)), .val (.int (1 : Int32)), .val (.int c0)] [(.int (1 : Int32))]))
  refine Runs.ret X2_ hlk (v := (some (.int (1 : Int32)))) (fun h => by rw [hret] at h; cases h) (by decide) (by decide) ?_ (fun fs hr => retI X2_ hx hret (hb hby d_jdk_52_method_21_46) hr)
  try rw [e2_]
  exact ⟨rfl, N2_, K, V_b⟩
def Q_rmCB1 (Z : State) (a : Addr) (c0 : Int32) (k1 : ClassId) (h0 : Heap) (n0 : Nat) : Option Value → Heap → List Loc → Prop := (fun v h L => ∃ b k2, v = some (.ref b) ∧ Fr n0 L ∧ Keep h0 h [] ∧ h0.size ≤ b ∧ Arv Z h b k2 .byte (1 : Int32) [(.int (nar .byte (c0.toInt8.toInt32)))] (.int (0 : Int32)))
theorem ef_jdk_52_method_16_RII (m : MethodId) (x0 : Addr) (x1 : Int32) (x2 : Int32)  : entryFrame m #[(.ref x0), (.int x1), (.int x2)] 6 = mkF m 0 #[.val (.ref x0), .val (.int x1), .val (.int x2), .unset, .unset, .unset] [] := by first | (simp [entryFrame, mkF, argsToLocals, Value.category]; done) | rfl
theorem d_jdk_52_method_16_0 : decode jdk_52_method_16_code 0 = .ok (.iload_n 2, 1) := by decide +kernel
theorem d_jdk_52_method_16_1 : decode jdk_52_method_16_code 1 = .ok (.newarray .byte, 2) := by decide +kernel
theorem d_jdk_52_method_16_3 : decode jdk_52_method_16_code 3 = .ok (.astore_n 3, 1) := by decide +kernel
theorem d_jdk_52_method_16_4 : decode jdk_52_method_16_code 4 = .ok (.aload_n 0, 1) := by decide +kernel
theorem d_jdk_52_method_16_5 : decode jdk_52_method_16_code 5 = .ok (.iload_n 1, 1) := by decide +kernel
theorem d_jdk_52_method_16_6 : decode jdk_52_method_16_code 6 = .ok (.aload_n 3, 1) := by decide +kernel
theorem d_jdk_52_method_16_7 : decode jdk_52_method_16_code 7 = .ok (.iconst 0, 1) := by decide +kernel
theorem d_jdk_52_method_16_8 : decode jdk_52_method_16_code 8 = .ok (.iload_n 2, 1) := by decide +kernel
theorem pd__28_5bCI_5bBII_29I : parseMethodDescriptor "([CI[BII)I" = some ⟨[(.array .char), .int, (.array .byte), .int, .int], some .int⟩ := by decide +kernel
theorem d_jdk_52_method_16_9 : decode jdk_52_method_16_code 9 = .ok (.invokestatic 115, 3) := by decide +kernel
theorem d_jdk_52_method_16_12 : decode jdk_52_method_16_code 12 = .ok (.istore 4, 2) := by decide +kernel
theorem d_jdk_52_method_16_14 : decode jdk_52_method_16_code 14 = .ok (.iload 4, 2) := by decide +kernel
theorem d_jdk_52_method_16_16 : decode jdk_52_method_16_code 16 = .ok (.iload_n 2, 1) := by decide +kernel
theorem d_jdk_52_method_16_17 : decode jdk_52_method_16_code 17 = .ok (.if_icmp .eq 40, 3) := by decide +kernel
theorem d_jdk_52_method_16_57 : decode jdk_52_method_16_code 57 = .ok (.aload_n 3, 1) := by decide +kernel
theorem d_jdk_52_method_16_58 : decode jdk_52_method_16_code 58 = .ok (.areturn, 1) := by decide +kernel
set_option maxRecDepth 65536 in
set_option maxHeartbeats 40000000 in
theorem rmCB1 (l : Launch) (Z : State) (a0 : Array Value) (hw : ∀ d ∈ tables_1, d.before a0 Z = true) (ws : List Jvm.Cond) (a : Addr) (c0 : Int32) (k1 : ClassId) (h0 : Heap) (n0 : Nat) (Z0 : n0 ≤ h0.size) (V_a : Arv Z h0 a k1 .char (1 : Int32) [(.int c0)] (.int (0 : Int32))) (u0 : ¬ ((255 : Int32) < c0)) :
    MetFree l (⟨"java/lang/StringUTF16", "compress", "([CII)[B"⟩ : MethodName) (head1 (Jvm.Cond.code (⟨"java/lang/StringUTF16", "compress", "([CII)[B"⟩ : MethodName) jdk_52_method_16_code 6 (some (.array .byte)) :: ws) ({ frames := 1, cells := 1, slots := 1, locals := 18 } : Room)) (fun ar_ U => ar_ = #[(.ref a), (.int (0 : Int32)), (.int (1 : Int32))] ∧ Z.Warmed39 U.vm ∧ U.heap = h0) (fun _ _ _ _ _ => True) (fun _ U o U' => Phi U (Q_rmCB1 Z a c0 k1 h0 n0) ({ frames := 1, cells := 1, slots := 1, locals := 18 } : Room).cells ({ frames := 1, cells := 1, slots := 1, locals := 18 } : Room).slots o U') := by
  refine MetFree.of_bodySF (plainFor_of_name pn_java_lang_StringUTF16) hisR ?_
  intro p e s m args below meth c s₁ Bd hml0 hP hK
  obtain ⟨rfl, hZ, hh⟩ := hP
  have hx := Bd.exec
  have hby := Bd.bytes
  have hlk := Bd.notSynchronized
  have hml : c.maxLocals = 6 := hml0
  have hown : s.vm.findClass "java/lang/StringUTF16" = some m.cls := findClass_of_methodNamed Bd.named
  have hown0 := hown
  have hnm := (name_of_methodNamed Bd.named Bd.method).1
  have hret := Bd.returns
  have X0 : Stand p l e ({ frames := 1, cells := 1, slots := 1, locals := 18 } : Room) s m #[(.ref a), (.int (0 : Int32)), (.int (1 : Int32))] below meth c s₁ [] 0 0 := Stand.of_body Bd
  have e0 : s₁.heap = h0 := by rw [← hh, Bd.state]; rfl
  have N0 := Fr.nil n0
  have sz := Z0
  have K := Keep.refl h0 []
  show Runs p.tables e below (Phi s (Q_rmCB1 Z a c0 k1 h0 n0) ({ frames := 1, cells := 1, slots := 1, locals := 18 } : Room).cells ({ frames := 1, cells := 1, slots := 1, locals := 18 } : Room).slots) _
  refine Runs.st (fun t' k' => castTop (ef_jdk_52_method_16_RII m a (0 : Int32) (1 : Int32) ) k') ?_
  show Runs p.tables e below _ (s₁.setTop (mkF m 0 #[.val (.ref a), .val (.int (0 : Int32)), .val (.int (1 : Int32)), .unset, .unset, .unset] []))
  refine Runs.st (fun t' k' => XS.iloadN X0.here hx rfl (hb hby d_jdk_52_method_16_0) rfl k') ?_
  show Runs p.tables e below _ (s₁.setTop (mkF m 1 #[.val (.ref a), .val (.int (0 : Int32)), .val (.int (1 : Int32)), .unset, .unset, .unset] [(.int (1 : Int32))]))
  obtain ⟨T1_, h1_, k1_, X1_, e1_, E1_, A1_, st1_⟩ := newP X0 hx hZ (hw _ (List.mem_of_getElem? (i := 26) rfl)) e0 (g := (mkF m 1 #[.val (.ref a), .val (.int (0 : Int32)), .val (.int (1 : Int32)), .unset, .unset, .unset] [(.int (1 : Int32))])) rfl (hb hby d_jdk_52_method_16_1) rfl (by decide) (cap := 1) (by decide) (by decide) (by decide) (by decide)
  refine Runs.st (st1_) ?_
  obtain ⟨b, g1_⟩ : ∃ z, z = h0.size := ⟨_, rfl⟩
  rw [← g1_] at A1_
  try rw [← g1_]
  have g_b : n0 ≤ b := Nat.le_trans sz (Nat.le_of_eq g1_.symm)
  have sz_b : h0.size ≤ b := Nat.le_trans K.1 (Nat.le_of_eq g1_.symm)
  have ne_a_b : a ≠ b := Nat.ne_of_lt (Nat.lt_of_lt_of_le V_a.lt (Nat.le_of_eq g1_.symm))
  replace V_a := V_a.ext E1_
  replace sz := Nat.le_trans sz E1_.1
  replace K := K.ext E1_
  have V_b : Arv Z h1_ b k1_ .byte (1 : Int32) [(.int (0 : Int32))] (.int (0 : Int32)) := (Arv.new A1_ (by decide)).pad (pad_rep [] (.int (0 : Int32)) 1)
  show Runs p.tables e below _ (T1_.setTop (mkF m 3 #[.val (.ref a), .val (.int (0 : Int32)), .val (.int (1 : Int32)), .unset, .unset, .unset] [(.ref b)]))
  refine Runs.st (fun t' k' => XS.astoreN X1_.here hx rfl (hb hby d_jdk_52_method_16_3) rfl rfl (l' := #[.val (.ref a), .val (.int (0 : Int32)), .val (.int (1 : Int32)), .val (.ref b), .unset, .unset]) rfl k') ?_
  show Runs p.tables e below _ (T1_.setTop (mkF m 4 #[.val (.ref a), .val (.int (0 : Int32)), .val (.int (1 : Int32)), .val (.ref b), .unset, .unset] []))
  refine Runs.st (fun t' k' => XS.aloadN X1_.here hx rfl (hb hby d_jdk_52_method_16_4) rfl rfl k') ?_
  show Runs p.tables e below _ (T1_.setTop (mkF m 5 #[.val (.ref a), .val (.int (0 : Int32)), .val (.int (1 : Int32)), .val (.ref b), .unset, .unset] [(.ref a)]))
  refine Runs.st (fun t' k' => XS.iloadN X1_.here hx rfl (hb hby d_jdk_52_method_16_5) rfl k') ?_
  show Runs p.tables e below _ (T1_.setTop (mkF m 6 #[.val (.ref a), .val (.int (0 : Int32)), .val (.int (1 : Int32)), .val (.ref b), .unset, .unset] [(.int (0 : Int32)), (.ref a)]))
  refine Runs.st (fun t' k' => XS.aloadN X1_.here hx rfl (hb hby d_jdk_52_method_16_6) rfl rfl k') ?_
  show Runs p.tables e below _ (T1_.setTop (mkF m 7 #[.val (.ref a), .val (.int (0 : Int32)), .val (.int (1 : Int32)), .val (.ref b), .unset, .unset] [(.ref b), (.int (0 : Int32)), (.ref a)]))
  refine Runs.st (fun t' k' => XS.iconst X1_.here hx rfl (hb hby d_jdk_52_method_16_7) k') ?_
  show Runs p.tables e below _ (T1_.setTop (mkF m 8 #[.val (.ref a), .val (.int (0 : Int32)), .val (.int (1 : Int32)), .val (.ref b), .unset, .unset] [(.int (0 : Int32)), (.ref b), (.int (0 : Int32)), (.ref a)]))
  refine Runs.st (fun t' k' => XS.iloadN X1_.here hx rfl (hb hby d_jdk_52_method_16_8) rfl k') ?_
  show Runs p.tables e below _ (T1_.setTop (mkF m 9 #[.val (.ref a), .val (.int (0 : Int32)), .val (.int (1 : Int32)), .val (.ref b), .unset, .unset] [(.int (1 : Int32)), (.int (0 : Int32)), (.ref b), (.int (0 : Int32)), (.ref a)]))
  obtain ⟨_, _, ⟨T2_, L2_, k2_, n2_⟩, -, X2_, ⟨Lc2_, hQ2_, l2_, y2_, z2_⟩, st2_⟩ := Jvm.LawKit.callS X1_ hx (y := (⟨"java/lang/StringUTF16", "compress", "([CI[BII)I"⟩ : MethodName)) hown (mvT hZ (hw _ (List.mem_of_getElem? (i := 27) rfl))) (mvT hZ (hw _ (List.mem_of_getElem? (i := 28) rfl))) (mvT hZ (hw _ (List.mem_of_getElem? (i := 24) rfl))) (mvT hZ (hw _ (List.mem_of_getElem? (i := 29) rfl))) (by decide) (backOf (W := 0) (rmCA1 l Z a0 hw [] a b c0 k1 _ h1_ n0 sz V_a V_b ne_a_b g_b u0) hZ (hw _ (List.mem_of_getElem? (i := 29) rfl)) (hw _ (List.mem_of_getElem? (i := 24) rfl)) (by decide) (by decide)) (g := (mkF m 9 #[.val (.ref a), .val (.int (0 : Int32)), .val (.int (1 : Int32)), .val (.ref b), .unset, .unset] [(.int (1 : Int32)), (.int (0 : Int32)), (.ref b), (.int (0 : Int32)), (.ref a)])) rfl (by rw [hml]; rfl) (argsL := [(.ref a), (.int (0 : Int32)), (.ref b), (.int (0 : Int32)), (.int (1 : Int32))]) (rest := []) (lenOf pd__28_5bCI_5bBII_29I rfl) rfl (by show 2 * 0 + _ ≤ _; exact Nat.le_of_eq rfl) (hb hby d_jdk_52_method_16_9) (fun _ _ => ⟨rfl, e1_, (by decide : 1 + 0 ≤ _), (by decide : 1 + 0 ≤ _)⟩)
  dsimp only [Pt.U, Pt.locs, Pt.cells, Pt.slots] at X2_ l2_ y2_ z2_ st2_ hQ2_
  subst l2_ y2_ z2_
  obtain ⟨rfl, N2_q, K2_, V_b⟩ := hQ2_
  have N2_ := Fr.app N0 N2_q
  refine Runs.st (st2_) ?_
  replace X2_ := wider X2_ (c' := 1) (s' := 1) (by decide) (by decide)
  replace V_a := V_a.keep K2_ (ninS ne_a_b nin0)
  replace sz := Nat.le_trans sz K2_.1
  replace K := K.trans K2_ (allS (Or.inr sz_b) all0)
  show Runs p.tables e below _ (T2_.setTop (mkF m 12 #[.val (.ref a), .val (.int (0 : Int32)), .val (.int (1 : Int32)), .val (.ref b), .unset, .unset] [(.int (1 : Int32))]))
  refine Runs.st (fun t' k' => XS.istore X2_.here hx rfl (hb hby d_jdk_52_method_16_12) rfl (l' := #[.val (.ref a), .val (.int (0 : Int32)), .val (.int (1 : Int32)), .val (.ref b), .val (.int (1 : Int32)), .unset]) rfl k') ?_
  show Runs p.tables e below _ (T2_.setTop (mkF m 14 #[.val (.ref a), .val (.int (0 : Int32)), .val (.int (1 : Int32)), .val (.ref b), .val (.int (1 : Int32)), .unset] []))
  refine Runs.st (fun t' k' => XS.iload X2_.here hx rfl (hb hby d_jdk_52_method_16_14) rfl k') ?_
  show Runs p.tables e below _ (T2_.setTop (mkF m 16 #[.val (.ref a), .val (.int (0 : Int32)), .val (.int (1 : Int32)), .val (.ref b), .val (.int (1 : Int32)), .unset] [(.int (1 : Int32))]))
  refine Runs.st (fun t' k' => XS.iloadN X2_.here hx rfl (hb hby d_jdk_52_method_16_16) rfl k') ?_
  show Runs p.tables e below _ (T2_.setTop (mkF m 17 #[.val (.ref a), .val (.int (0 : Int32)), .val (.int (1 : Int32)), .val (.ref b), .val (.int (1 : Int32)), .unset] [(.int (1 : Int32)), (.int (1 : Int32))]))
  refine Runs.st (fun t' k' => XS.icmpYes X2_.here hx rfl (pc0 := 17) (pc' := 57) rfl (hb hby d_jdk_52_method_16_17) rfl (teq rfl).1 (by decide) (by decide) k') ?_
  show Runs p.tables e below _ (T2_.setTop (mkF m 57 #[.val (.ref a), .val (.int (0 : Int32)), .val (.int (1 : Int32)), .val (.ref b), .val (.int (1 : Int32)), .unset] []))
  refine Runs.st (fun t' k' => XS.aloadN X2_.here hx rfl (hb hby d_jdk_52_method_16_57) rfl rfl k') ?_
  show Runs p.tables e below _ (T2_.setTop (mkF m 58 #[.val (.ref a), .val (.int (0 : Int32)), .val (.int (1 : Int32)), .val (.ref b), .val (.int (1 : Int32)), .unset] [(.ref b)]))
  refine Runs.ret X2_ hlk (v := (some (.ref b))) (fun h => by rw [hret] at h; cases h) (by decide) (by decide) ?_ (fun fs hr => retOut X2_ hx hret rfl (Or.inr (Or.inr (Or.inr (Or.inr ⟨rfl, rfl, rfl⟩)))) (hb hby d_jdk_52_method_16_58) hr)
  exact ⟨b, _, rfl, N2_, K, sz_b, V_b⟩
def Q_rmCd1 (Z : State) (b : Addr) (k2 : ClassId) (vs : List Value) (h0 : Heap) (n0 : Nat) : Option Value → Heap → List Loc → Prop := (fun v h L => v = some (.int (0 : Int32)) ∧ Fr n0 L ∧ h = h0)
theorem ef_jdk_52_method_15_RI (m : MethodId) (x0 : Addr) (x1 : Int32)  : entryFrame m #[(.ref x0), (.int x1)] 2 = mkF m 0 #[.val (.ref x0), .val (.int x1)] [] := by first | (simp [entryFrame, mkF, argsToLocals, Value.category]; done) | rfl
theorem d_jdk_52_method_15_0 : decode jdk_52_method_15_code 0 = .ok (.iload_n 1, 1) := by decide +kernel
theorem d_jdk_52_method_15_1 : decode jdk_52_method_15_code 1 = .ok (.aload_n 0, 1) := by decide +kernel
theorem d_jdk_52_method_15_2 : decode jdk_52_method_15_code 2 = .ok (.arraylength, 1) := by decide +kernel
theorem d_jdk_52_method_15_3 : decode jdk_52_method_15_code 3 = .ok (.isub, 1) := by decide +kernel
theorem d_jdk_52_method_15_4 : decode jdk_52_method_15_code 4 = .ok (.bipush 31, 2) := by decide +kernel
theorem d_jdk_52_method_15_6 : decode jdk_52_method_15_code 6 = .ok (.iushr, 1) := by decide +kernel
theorem d_jdk_52_method_15_7 : decode jdk_52_method_15_code 7 = .ok (.i2b, 1) := by decide +kernel
theorem d_jdk_52_method_15_8 : decode jdk_52_method_15_code 8 = .ok (.ireturn, 1) := by decide +kernel
set_option maxRecDepth 65536 in
set_option maxHeartbeats 40000000 in
theorem rmCd1 (l : Launch) (Z : State) (a0 : Array Value) (hw : ∀ d ∈ tables_1, d.before a0 Z = true) (ws : List Jvm.Cond) (b : Addr) (k2 : ClassId) (vs : List Value) (h0 : Heap) (n0 : Nat) (Z0 : n0 ≤ h0.size) (V_b : Arv Z h0 b k2 .byte (1 : Int32) vs (.int (0 : Int32))) :
    MetFree l (⟨"java/lang/StringUTF16", "coderFromArrayLen", "([BI)B"⟩ : MethodName) (head1 (Jvm.Cond.code (⟨"java/lang/StringUTF16", "coderFromArrayLen", "([BI)B"⟩ : MethodName) jdk_52_method_15_code 2 (some .byte) :: ws) ({ frames := 0, cells := 0, slots := 0, locals := 0 } : Room)) (fun ar_ U => ar_ = #[(.ref b), (.int (1 : Int32))] ∧ Z.Warmed39 U.vm ∧ U.heap = h0) (fun _ _ _ _ _ => True) (fun _ U o U' => Phi U (Q_rmCd1 Z b k2 vs h0 n0) ({ frames := 0, cells := 0, slots := 0, locals := 0 } : Room).cells ({ frames := 0, cells := 0, slots := 0, locals := 0 } : Room).slots o U') := by
  refine MetFree.of_bodySF (plainFor_of_name pn_java_lang_StringUTF16) hisR ?_
  intro p e s m args below meth c s₁ Bd hml0 hP hK
  obtain ⟨rfl, hZ, hh⟩ := hP
  have hx := Bd.exec
  have hby := Bd.bytes
  have hlk := Bd.notSynchronized
  have hml : c.maxLocals = 2 := hml0
  have hown : s.vm.findClass "java/lang/StringUTF16" = some m.cls := findClass_of_methodNamed Bd.named
  have hown0 := hown
  have hnm := (name_of_methodNamed Bd.named Bd.method).1
  have hret := Bd.returns
  have X0 : Stand p l e ({ frames := 0, cells := 0, slots := 0, locals := 0 } : Room) s m #[(.ref b), (.int (1 : Int32))] below meth c s₁ [] 0 0 := Stand.of_body Bd
  have e0 : s₁.heap = h0 := by rw [← hh, Bd.state]; rfl
  have N0 := Fr.nil n0
  have sz := Z0
  have K := Keep.refl h0 []
  show Runs p.tables e below (Phi s (Q_rmCd1 Z b k2 vs h0 n0) ({ frames := 0, cells := 0, slots := 0, locals := 0 } : Room).cells ({ frames := 0, cells := 0, slots := 0, locals := 0 } : Room).slots) _
  refine Runs.st (fun t' k' => castTop (ef_jdk_52_method_15_RI m b (1 : Int32) ) k') ?_
  show Runs p.tables e below _ (s₁.setTop (mkF m 0 #[.val (.ref b), .val (.int (1 : Int32))] []))
  refine Runs.st (fun t' k' => XS.iloadN X0.here hx rfl (hb hby d_jdk_52_method_15_0) rfl k') ?_
  show Runs p.tables e below _ (s₁.setTop (mkF m 1 #[.val (.ref b), .val (.int (1 : Int32))] [(.int (1 : Int32))]))
  refine Runs.st (fun t' k' => XS.aloadN X0.here hx rfl (hb hby d_jdk_52_method_15_1) rfl rfl k') ?_
  show Runs p.tables e below _ (s₁.setTop (mkF m 2 #[.val (.ref b), .val (.int (1 : Int32))] [(.ref b), (.int (1 : Int32))]))
  obtain ⟨cl1_, Ar1_, -, S1_, M1_, -, -⟩ := id V_b
  refine Runs.st (X0.arraylength hx (by rw [e0]; exact Ar1_.1) (State.isArrayOf_alike hZ.alike Ar1_.2.1) (g := (mkF m 2 #[.val (.ref b), .val (.int (1 : Int32))] [(.ref b), (.int (1 : Int32))])) rfl rfl (hb hby d_jdk_52_method_15_2)) ?_
  rw [len_of S1_ M1_]
  show Runs p.tables e below _ (s₁.setTop (mkF m 3 #[.val (.ref b), .val (.int (1 : Int32))] [(.int (1 : Int32)), (.int (1 : Int32))]))
  refine Runs.st (fun t' k' => XS.isub X0.here hx rfl (hb hby d_jdk_52_method_15_3) rfl k') ?_
  show Runs p.tables e below _ (s₁.setTop (mkF m 4 #[.val (.ref b), .val (.int (1 : Int32))] [(.int ((1 : Int32) - (1 : Int32)))]))
  refine Runs.st (fun t' k' => XS.bipush X0.here hx rfl (hb hby d_jdk_52_method_15_4) k') ?_
  show Runs p.tables e below _ (s₁.setTop (mkF m 6 #[.val (.ref b), .val (.int (1 : Int32))] [(.int (31 : Int32)), (.int ((1 : Int32) - (1 : Int32)))]))
  refine Runs.st (fun t' k' => XS.iushr X0.here hx rfl (hb hby d_jdk_52_method_15_6) rfl k') ?_
  show Runs p.tables e below _ (s₁.setTop (mkF m 7 #[.val (.ref b), .val (.int (1 : Int32))] [(.int ((((1 : Int32) - (1 : Int32)).toUInt32 >>> ((31 : Int32) &&& 31).toUInt32).toInt32))]))
  refine Runs.st (fun t' k' => XS.i2b X0.here hx rfl (hb hby d_jdk_52_method_15_7) rfl k') ?_
  show Runs p.tables e below _ (s₁.setTop (mkF m 8 #[.val (.ref b), .val (.int (1 : Int32))] [(.int (((((1 : Int32) - (1 : Int32)).toUInt32 >>> ((31 : Int32) &&& 31).toUInt32).toInt32).toInt8.toInt32))]))
  refine Runs.ret X0 hlk (v := (some (.int (nar .byte (((((1 : Int32) - (1 : Int32)).toUInt32 >>> ((31 : Int32) &&& 31).toUInt32).toInt32).toInt8.toInt32))))) (fun h => by rw [hret] at h; cases h) (by decide) (by decide) ?_ (fun fs hr => retN X0 hx (t := .byte) hret (by simp) (hb hby d_jdk_52_method_15_8) hr)
  try rw [e0]
  exact ⟨congrArg (fun z => some (Value.int z)) (by decide), N0, rfl⟩
def Q_rmID1 (Z : State) (a : Addr) (d : Addr) (c0 : Int32) (k1 : ClassId) (zc : Int32) (h0 : Heap) (n0 : Nat) : Option Value → Heap → List Loc → Prop := (fun v h L => v = none ∧ Fr n0 L ∧ Keep h0 h [a] ∧ Exa Z h a "java/lang/String" ∧ Fld Z h a "java/lang/String" "coder" "B" (.int (0 : Int32)) ∧ ∃ b k2, h0.size ≤ b ∧ Fld Z h a "java/lang/String" "value" "[B" (.ref b) ∧ Arv Z h b k2 .byte (1 : Int32) [(.int (nar .byte (c0.toInt8.toInt32)))] (.int (0 : Int32)))
theorem pn_java_lang_String : plainName "java/lang/String" = true := by first | (simp [plainName, overriddenIn]; done) | decide +kernel
theorem ef_jdk_42_method_149_RRIIN (m : MethodId) (x0 : Addr) (x1 : Addr) (x2 : Int32) (x3 : Int32)  : entryFrame m #[(.ref x0), (.ref x1), (.int x2), (.int x3), .null] 6 = mkF m 0 #[.val (.ref x0), .val (.ref x1), .val (.int x2), .val (.int x3), .val .null, .unset] [] := by first | (simp [entryFrame, mkF, argsToLocals, Value.category]; done) | rfl
theorem d_jdk_42_method_149_0 : decode jdk_42_method_149_code 0 = .ok (.aload_n 0, 1) := by decide +kernel
theorem d_jdk_42_method_149_1 : decode jdk_42_method_149_code 1 = .ok (.invokespecial 1, 3) := by decide +kernel
theorem d_jdk_42_method_149_4 : decode jdk_42_method_149_code 4 = .ok (.iload_n 3, 1) := by decide +kernel
theorem d_jdk_42_method_149_5 : decode jdk_42_method_149_code 5 = .ok (.ifCond .ne 22, 3) := by decide +kernel
theorem d_jdk_42_method_149_27 : decode jdk_42_method_149_code 27 = .ok (.getstatic 38, 3) := by decide +kernel
theorem d_jdk_42_method_149_30 : decode jdk_42_method_149_code 30 = .ok (.ifCond .eq 28, 3) := by decide +kernel
theorem d_jdk_42_method_149_33 : decode jdk_42_method_149_code 33 = .ok (.aload_n 1, 1) := by decide +kernel
theorem d_jdk_42_method_149_34 : decode jdk_42_method_149_code 34 = .ok (.iload_n 2, 1) := by decide +kernel
theorem d_jdk_42_method_149_35 : decode jdk_42_method_149_code 35 = .ok (.iload_n 3, 1) := by decide +kernel
theorem pd__28_5bCII_29_5bB : parseMethodDescriptor "([CII)[B" = some ⟨[(.array .char), .int, .int], some (.array .byte)⟩ := by decide +kernel
theorem d_jdk_42_method_149_36 : decode jdk_42_method_149_code 36 = .ok (.invokestatic 177, 3) := by decide +kernel
theorem d_jdk_42_method_149_39 : decode jdk_42_method_149_code 39 = .ok (.astore 5, 2) := by decide +kernel
theorem d_jdk_42_method_149_41 : decode jdk_42_method_149_code 41 = .ok (.aload_n 0, 1) := by decide +kernel
theorem d_jdk_42_method_149_42 : decode jdk_42_method_149_code 42 = .ok (.aload 5, 2) := by decide +kernel
theorem d_jdk_42_method_149_44 : decode jdk_42_method_149_code 44 = .ok (.iload_n 3, 1) := by decide +kernel
theorem pd__28_5bBI_29B : parseMethodDescriptor "([BI)B" = some ⟨[(.array .byte), .int], some .byte⟩ := by decide +kernel
theorem d_jdk_42_method_149_45 : decode jdk_42_method_149_code 45 = .ok (.invokestatic 47, 3) := by decide +kernel
theorem d_jdk_42_method_149_48 : decode jdk_42_method_149_code 48 = .ok (.putfield 15, 3) := by decide +kernel
theorem d_jdk_42_method_149_51 : decode jdk_42_method_149_code 51 = .ok (.aload_n 0, 1) := by decide +kernel
theorem d_jdk_42_method_149_52 : decode jdk_42_method_149_code 52 = .ok (.aload 5, 2) := by decide +kernel
theorem d_jdk_42_method_149_54 : decode jdk_42_method_149_code 54 = .ok (.putfield 9, 3) := by decide +kernel
theorem d_jdk_42_method_149_57 : decode jdk_42_method_149_code 57 = .ok (.return_, 1) := by decide +kernel
set_option maxRecDepth 65536 in
set_option maxHeartbeats 40000000 in
theorem rmID1 (l : Launch) (Z : State) (a0 : Array Value) (hw : ∀ d ∈ tables_1, d.before a0 Z = true) (ws : List Jvm.Cond) (a : Addr) (d : Addr) (c0 : Int32) (k1 : ClassId) (zc : Int32) (h0 : Heap) (n0 : Nat) (Z0 : n0 ≤ h0.size) (E_a : Exa Z h0 a "java/lang/String") (F_v : Fld Z h0 a "java/lang/String" "value" "[B" .null) (F_c : Fld Z h0 a "java/lang/String" "coder" "B" (.int (0 : Int32))) (g_a : n0 ≤ a) (V_d : Arv Z h0 d k1 .char (1 : Int32) [(.int c0)] (.int (0 : Int32))) (Sc : Sta Z h0 "java/lang/String" "COMPACT_STRINGS" "Z" (.int zc)) (hzc : ¬ zc = 0) (u0 : ¬ ((255 : Int32) < c0)) :
    MetFree l (⟨"java/lang/String", "<init>", "([CIILjava/lang/Void;)V"⟩ : MethodName) (head1 (Jvm.Cond.code (⟨"java/lang/String", "<init>", "([CIILjava/lang/Void;)V"⟩ : MethodName) jdk_42_method_149_code 6 none :: ws) ({ frames := 2, cells := 1, slots := 1, locals := 35 } : Room)) (fun ar_ U => ar_ = #[(.ref a), (.ref d), (.int (0 : Int32)), (.int (1 : Int32)), .null] ∧ Z.Warmed39 U.vm ∧ U.heap = h0) (fun _ _ _ _ _ => True) (fun _ U o U' => Phi U (Q_rmID1 Z a d c0 k1 zc h0 n0) ({ frames := 2, cells := 1, slots := 1, locals := 35 } : Room).cells ({ frames := 2, cells := 1, slots := 1, locals := 35 } : Room).slots o U') := by
  refine MetFree.of_bodySF (plainFor_of_name pn_java_lang_String) hisR ?_
  intro p e s m args below meth c s₁ Bd hml0 hP hK
  obtain ⟨rfl, hZ, hh⟩ := hP
  have hx := Bd.exec
  have hby := Bd.bytes
  have hlk := Bd.notSynchronized
  have hml : c.maxLocals = 6 := hml0
  have hown : s.vm.findClass "java/lang/String" = some m.cls := findClass_of_methodNamed Bd.named
  have hown0 := hown
  have hnm := (name_of_methodNamed Bd.named Bd.method).1
  have hret := Bd.returns
  have X0 : Stand p l e ({ frames := 2, cells := 1, slots := 1, locals := 35 } : Room) s m #[(.ref a), (.ref d), (.int (0 : Int32)), (.int (1 : Int32)), .null] below meth c s₁ [] 0 0 := Stand.of_body Bd
  have e0 : s₁.heap = h0 := by rw [← hh, Bd.state]; rfl
  have N0 := Fr.nil n0
  have sz := Z0
  have K := Keep.refl h0 [a]
  show Runs p.tables e below (Phi s (Q_rmID1 Z a d c0 k1 zc h0 n0) ({ frames := 2, cells := 1, slots := 1, locals := 35 } : Room).cells ({ frames := 2, cells := 1, slots := 1, locals := 35 } : Room).slots) _
  refine Runs.st (fun t' k' => castTop (ef_jdk_42_method_149_RRIIN m a d (0 : Int32) (1 : Int32) ) k') ?_
  show Runs p.tables e below _ (s₁.setTop (mkF m 0 #[.val (.ref a), .val (.ref d), .val (.int (0 : Int32)), .val (.int (1 : Int32)), .val .null, .unset] []))
  refine Runs.st (fun t' k' => XS.aloadN X0.here hx rfl (hb hby d_jdk_42_method_149_0) rfl rfl k') ?_
  show Runs p.tables e below _ (s₁.setTop (mkF m 1 #[.val (.ref a), .val (.ref d), .val (.int (0 : Int32)), .val (.int (1 : Int32)), .val .null, .unset] [(.ref a)]))
  obtain ⟨T1_, X1_, e1_, st1_⟩ := initO X0 hx hZ hown (hw _ (List.mem_of_getElem? (i := 18) rfl)) (hw _ (List.mem_of_getElem? (i := 19) rfl)) (hw _ (List.mem_of_getElem? (i := 20) rfl)) e0 (g := (mkF m 1 #[.val (.ref a), .val (.ref d), .val (.int (0 : Int32)), .val (.int (1 : Int32)), .val .null, .unset] [(.ref a)])) rfl (by rw [hml]; rfl) rfl (hb hby d_jdk_42_method_149_1) (by decide) (W := 0) (by show 2 * 0 + _ ≤ _; exact Nat.le_of_eq rfl) (by decide)
  refine Runs.st (st1_) ?_
  show Runs p.tables e below _ (T1_.setTop (mkF m 4 #[.val (.ref a), .val (.ref d), .val (.int (0 : Int32)), .val (.int (1 : Int32)), .val .null, .unset] []))
  refine Runs.st (fun t' k' => XS.iloadN X1_.here hx rfl (hb hby d_jdk_42_method_149_4) rfl k') ?_
  show Runs p.tables e below _ (T1_.setTop (mkF m 5 #[.val (.ref a), .val (.ref d), .val (.int (0 : Int32)), .val (.int (1 : Int32)), .val .null, .unset] [(.int (1 : Int32))]))
  refine Runs.st (fun t' k' => XS.ifYes X1_.here hx rfl (pc0 := 5) (pc' := 27) rfl (hb hby d_jdk_42_method_149_5) rfl ((if0 _ _).trans (feq (by decide)).2) (by decide) (by decide) k') ?_
  show Runs p.tables e below _ (T1_.setTop (mkF m 27 #[.val (.ref a), .val (.ref d), .val (.int (0 : Int32)), .val (.int (1 : Int32)), .val .null, .unset] []))
  obtain ⟨T2_, X2_, e2_, st2_⟩ := getS2 X1_ hx hZ hown (host := "") (Or.inl (hw _ (List.mem_of_getElem? (i := 21) rfl))) Via.refl e1_ Sc (g := (mkF m 27 #[.val (.ref a), .val (.ref d), .val (.int (0 : Int32)), .val (.int (1 : Int32)), .val .null, .unset] [])) rfl (hb hby d_jdk_42_method_149_27)
  refine Runs.st (st2_) ?_
  show Runs p.tables e below _ (T2_.setTop (mkF m 30 #[.val (.ref a), .val (.ref d), .val (.int (0 : Int32)), .val (.int (1 : Int32)), .val .null, .unset] [(.int zc)]))
  refine Runs.st (fun t' k' => XS.ifNo X2_.here hx rfl (hb hby d_jdk_42_method_149_30) rfl ((if0 _ _).trans (feq hzc).1) k') ?_
  show Runs p.tables e below _ (T2_.setTop (mkF m 33 #[.val (.ref a), .val (.ref d), .val (.int (0 : Int32)), .val (.int (1 : Int32)), .val .null, .unset] []))
  refine Runs.st (fun t' k' => XS.aloadN X2_.here hx rfl (hb hby d_jdk_42_method_149_33) rfl rfl k') ?_
  show Runs p.tables e below _ (T2_.setTop (mkF m 34 #[.val (.ref a), .val (.ref d), .val (.int (0 : Int32)), .val (.int (1 : Int32)), .val .null, .unset] [(.ref d)]))
  refine Runs.st (fun t' k' => XS.iloadN X2_.here hx rfl (hb hby d_jdk_42_method_149_34) rfl k') ?_
  show Runs p.tables e below _ (T2_.setTop (mkF m 35 #[.val (.ref a), .val (.ref d), .val (.int (0 : Int32)), .val (.int (1 : Int32)), .val .null, .unset] [(.int (0 : Int32)), (.ref d)]))
  refine Runs.st (fun t' k' => XS.iloadN X2_.here hx rfl (hb hby d_jdk_42_method_149_35) rfl k') ?_
  show Runs p.tables e below _ (T2_.setTop (mkF m 36 #[.val (.ref a), .val (.ref d), .val (.int (0 : Int32)), .val (.int (1 : Int32)), .val .null, .unset] [(.int (1 : Int32)), (.int (0 : Int32)), (.ref d)]))
  have kz3_ := K.1
  have gz3_ := sz
  have lt3__a := E_a.lt
  obtain ⟨_, _, ⟨T3_, L3_, k3_, n3_⟩, -, X3_, ⟨Lc3_, hQ3_, l3_, y3_, z3_⟩, st3_⟩ := Jvm.LawKit.callS X2_ hx (y := (⟨"java/lang/StringUTF16", "compress", "([CII)[B"⟩ : MethodName)) hown (mvT hZ (hw _ (List.mem_of_getElem? (i := 22) rfl))) (mvT hZ (hw _ (List.mem_of_getElem? (i := 23) rfl))) (mvT hZ (hw _ (List.mem_of_getElem? (i := 24) rfl))) (mvT hZ (hw _ (List.mem_of_getElem? (i := 25) rfl))) (by decide) (backOf (W := 0) (rmCB1 l Z a0 hw [] d c0 k1 h0 n0 sz V_d u0) hZ (hw _ (List.mem_of_getElem? (i := 25) rfl)) (hw _ (List.mem_of_getElem? (i := 24) rfl)) (by decide) (by decide)) (g := (mkF m 36 #[.val (.ref a), .val (.ref d), .val (.int (0 : Int32)), .val (.int (1 : Int32)), .val .null, .unset] [(.int (1 : Int32)), (.int (0 : Int32)), (.ref d)])) rfl (by rw [hml]; rfl) (argsL := [(.ref d), (.int (0 : Int32)), (.int (1 : Int32))]) (rest := []) (lenOf pd__28_5bCII_29_5bB rfl) rfl (by show 2 * 0 + _ ≤ _; exact Nat.le_of_eq rfl) (hb hby d_jdk_42_method_149_36) (fun _ _ => ⟨rfl, e2_, (by decide : 0 + 1 ≤ _), (by decide : 0 + 1 ≤ _)⟩)
  dsimp only [Pt.U, Pt.locs, Pt.cells, Pt.slots] at X3_ l3_ y3_ z3_ st3_ hQ3_
  subst l3_ y3_ z3_
  obtain ⟨b, k2, rfl, N3_q, K3_, szb, V_b⟩ := hQ3_
  have N3_ := Fr.app N0 N3_q
  refine Runs.st (st3_) ?_
  replace X3_ := wider X3_ (c' := 1) (s' := 1) (by decide) (by decide)
  replace E_a := E_a.keep K3_
  replace F_v := F_v.keep K3_ nin0
  replace F_c := F_c.keep K3_ nin0
  replace sz := Nat.le_trans sz K3_.1
  replace K := K.trans K3_ all0
  have sz_b : h0.size ≤ b := Nat.le_trans kz3_ szb
  have g_b : n0 ≤ b := Nat.le_trans gz3_ szb
  have ne_a_b : a ≠ b := Nat.ne_of_lt (Nat.lt_of_lt_of_le lt3__a szb)
  show Runs p.tables e below _ (T3_.setTop (mkF m 39 #[.val (.ref a), .val (.ref d), .val (.int (0 : Int32)), .val (.int (1 : Int32)), .val .null, .unset] [(.ref b)]))
  refine Runs.st (fun t' k' => XS.astore X3_.here hx rfl (hb hby d_jdk_42_method_149_39) rfl rfl (l' := #[.val (.ref a), .val (.ref d), .val (.int (0 : Int32)), .val (.int (1 : Int32)), .val .null, .val (.ref b)]) rfl k') ?_
  show Runs p.tables e below _ (T3_.setTop (mkF m 41 #[.val (.ref a), .val (.ref d), .val (.int (0 : Int32)), .val (.int (1 : Int32)), .val .null, .val (.ref b)] []))
  refine Runs.st (fun t' k' => XS.aloadN X3_.here hx rfl (hb hby d_jdk_42_method_149_41) rfl rfl k') ?_
  show Runs p.tables e below _ (T3_.setTop (mkF m 42 #[.val (.ref a), .val (.ref d), .val (.int (0 : Int32)), .val (.int (1 : Int32)), .val .null, .val (.ref b)] [(.ref a)]))
  refine Runs.st (fun t' k' => XS.aload X3_.here hx rfl (hb hby d_jdk_42_method_149_42) rfl rfl k') ?_
  show Runs p.tables e below _ (T3_.setTop (mkF m 44 #[.val (.ref a), .val (.ref d), .val (.int (0 : Int32)), .val (.int (1 : Int32)), .val .null, .val (.ref b)] [(.ref b), (.ref a)]))
  refine Runs.st (fun t' k' => XS.iloadN X3_.here hx rfl (hb hby d_jdk_42_method_149_44) rfl k') ?_
  show Runs p.tables e below _ (T3_.setTop (mkF m 45 #[.val (.ref a), .val (.ref d), .val (.int (0 : Int32)), .val (.int (1 : Int32)), .val .null, .val (.ref b)] [(.int (1 : Int32)), (.ref b), (.ref a)]))
  obtain ⟨_, _, ⟨T4_, L4_, k4_, n4_⟩, -, X4_, ⟨Lc4_, hQ4_, l4_, y4_, z4_⟩, st4_⟩ := Jvm.LawKit.callS X3_ hx (y := (⟨"java/lang/StringUTF16", "coderFromArrayLen", "([BI)B"⟩ : MethodName)) hown (mvT hZ (hw _ (List.mem_of_getElem? (i := 30) rfl))) (mvT hZ (hw _ (List.mem_of_getElem? (i := 31) rfl))) (mvT hZ (hw _ (List.mem_of_getElem? (i := 24) rfl))) (mvT hZ (hw _ (List.mem_of_getElem? (i := 32) rfl))) (by decide) (backOf (W := 1) (rmCd1 l Z a0 hw [] b k2 _ T3_.heap n0 sz V_b) hZ (hw _ (List.mem_of_getElem? (i := 32) rfl)) (hw _ (List.mem_of_getElem? (i := 24) rfl)) (by decide) (by decide)) (g := (mkF m 45 #[.val (.ref a), .val (.ref d), .val (.int (0 : Int32)), .val (.int (1 : Int32)), .val .null, .val (.ref b)] [(.int (1 : Int32)), (.ref b), (.ref a)])) rfl (by rw [hml]; rfl) (argsL := [(.ref b), (.int (1 : Int32))]) (rest := [(.ref a)]) (lenOf pd__28_5bBI_29B rfl) rfl (by show 2 * 0 + _ ≤ _; exact Nat.le_of_eq rfl) (hb hby d_jdk_42_method_149_45) (fun _ _ => ⟨rfl, rfl, (by decide : 1 + 0 ≤ _), (by decide : 1 + 0 ≤ _)⟩)
  dsimp only [Pt.U, Pt.locs, Pt.cells, Pt.slots] at X4_ l4_ y4_ z4_ st4_ hQ4_
  subst l4_ y4_ z4_
  obtain ⟨rfl, N4_q, e4_⟩ := hQ4_
  have N4_ := Fr.app N3_ N4_q
  refine Runs.st (st4_) ?_
  replace X4_ := wider X4_ (c' := 1) (s' := 1) (by decide) (by decide)
  show Runs p.tables e below _ (T4_.setTop (mkF m 48 #[.val (.ref a), .val (.ref d), .val (.int (0 : Int32)), .val (.int (1 : Int32)), .val .null, .val (.ref b)] [(.int (0 : Int32)), (.ref a)]))
  obtain ⟨T5_, h5_, X5_, e5_, W5_, st5_⟩ := putFN X4_ hx hZ hown (hw _ (List.mem_of_getElem? (i := 33) rfl)) Via.refl e4_ F_c E_a (Or.inr ⟨(hw _ (List.mem_of_getElem? (i := 34) rfl)), rfl, hnm⟩) (hw _ (List.mem_of_getElem? (i := 9) rfl)) (ty := .byte) (v' := .int (0 : Int32)) (by decide) rfl rfl (g := (mkF m 48 #[.val (.ref a), .val (.ref d), .val (.int (0 : Int32)), .val (.int (1 : Int32)), .val .null, .val (.ref b)] [(.int (0 : Int32)), (.ref a)])) rfl rfl (hb hby d_jdk_42_method_149_48)
  refine Runs.st (st5_) ?_
  replace F_c := F_c.same W5_
  replace E_a := Jvm.RoadKit.Exa.wr W5_ E_a
  replace F_v := F_v.other W5_ (Or.inr (slot_ne (Or.inr (hw _ (List.mem_of_getElem? (i := 36) rfl))) (Or.inr (hw _ (List.mem_of_getElem? (i := 34) rfl))) (by decide) (t := (.array .byte)) (t' := .byte) (by decide) (by decide)))
  replace V_b := V_b.other W5_ (Ne.symm ne_a_b)
  replace sz := Nat.le_trans sz (Keep.of_wr W5_).1
  have N5_ := Fr.snoc X5_ N4_ g_a
  replace K := K.wr W5_ (Or.inl (List.mem_of_getElem? (i := 0) rfl))
  show Runs p.tables e below _ (T5_.setTop (mkF m 51 #[.val (.ref a), .val (.ref d), .val (.int (0 : Int32)), .val (.int (1 : Int32)), .val .null, .val (.ref b)] []))
  refine Runs.st (fun t' k' => XS.aloadN X5_.here hx rfl (hb hby d_jdk_42_method_149_51) rfl rfl k') ?_
  show Runs p.tables e below _ (T5_.setTop (mkF m 52 #[.val (.ref a), .val (.ref d), .val (.int (0 : Int32)), .val (.int (1 : Int32)), .val .null, .val (.ref b)] [(.ref a)]))
  refine Runs.st (fun t' k' => XS.aload X5_.here hx rfl (hb hby d_jdk_42_method_149_52) rfl rfl k') ?_
  show Runs p.tables e below _ (T5_.setTop (mkF m 54 #[.val (.ref a), .val (.ref d), .val (.int (0 : Int32)), .val (.int (1 : Int32)), .val .null, .val (.ref b)] [(.ref b), (.ref a)]))
  obtain ⟨T6_, h6_, X6_, e6_, W6_, st6_⟩ := putF X5_ hx hZ hown (host := "") (Or.inl (hw _ (List.mem_of_getElem? (i := 35) rfl))) Via.refl e5_ F_v E_a (Or.inr ⟨(hw _ (List.mem_of_getElem? (i := 36) rfl)), rfl, hnm⟩) (hw _ (List.mem_of_getElem? (i := 9) rfl)) (ty := (.array .byte)) (by decide) rfl rfl (g := (mkF m 54 #[.val (.ref a), .val (.ref d), .val (.int (0 : Int32)), .val (.int (1 : Int32)), .val .null, .val (.ref b)] [(.ref b), (.ref a)])) rfl rfl (hb hby d_jdk_42_method_149_54)
  refine Runs.st (st6_) ?_
  replace F_v := F_v.same W6_
  replace E_a := Jvm.RoadKit.Exa.wr W6_ E_a
  replace V_b := V_b.other W6_ (Ne.symm ne_a_b)
  replace F_c := F_c.other W6_ (Or.inr (slot_ne (Or.inr (hw _ (List.mem_of_getElem? (i := 34) rfl))) (Or.inr (hw _ (List.mem_of_getElem? (i := 36) rfl))) (by decide) (t := .byte) (t' := (.array .byte)) (by decide) (by decide)))
  replace sz := Nat.le_trans sz (Keep.of_wr W6_).1
  have N6_ := Fr.snoc X6_ N5_ g_a
  replace K := K.wr W6_ (Or.inl (List.mem_of_getElem? (i := 0) rfl))
  show Runs p.tables e below _ (T6_.setTop (mkF m 57 #[.val (.ref a), .val (.ref d), .val (.int (0 : Int32)), .val (.int (1 : Int32)), .val .null, .val (.ref b)] []))
  refine Runs.ret X6_ hlk (v := none) (fun _ => rfl) (by decide) (by decide) ?_ (fun fs hr => X6_.returnOut hx hret (hb hby d_jdk_42_method_149_57) hr)
  try rw [e6_]
  exact ⟨rfl, N6_, K, E_a, F_c, b, k2, sz_b, F_v, V_b⟩
def Q_rmIC1 (Z : State) (a : Addr) (d : Addr) (c0 : Int32) (k1 : ClassId) (zc : Int32) (h0 : Heap) (n0 : Nat) : Option Value → Heap → List Loc → Prop := (fun v h L => v = none ∧ Fr n0 L ∧ Keep h0 h [a] ∧ Exa Z h a "java/lang/String" ∧ Fld Z h a "java/lang/String" "coder" "B" (.int (0 : Int32)) ∧ ∃ b k2, h0.size ≤ b ∧ Fld Z h a "java/lang/String" "value" "[B" (.ref b) ∧ Arv Z h b k2 .byte (1 : Int32) [(.int (nar .byte (c0.toInt8.toInt32)))] (.int (0 : Int32)))
theorem ef_jdk_42_method_3_RR (m : MethodId) (x0 : Addr) (x1 : Addr)  : entryFrame m #[(.ref x0), (.ref x1)] 2 = mkF m 0 #[.val (.ref x0), .val (.ref x1)] [] := by first | (simp [entryFrame, mkF, argsToLocals, Value.category]; done) | rfl
theorem d_jdk_42_method_3_0 : decode jdk_42_method_3_code 0 = .ok (.aload_n 0, 1) := by decide +kernel
theorem d_jdk_42_method_3_1 : decode jdk_42_method_3_code 1 = .ok (.aload_n 1, 1) := by decide +kernel
theorem d_jdk_42_method_3_2 : decode jdk_42_method_3_code 2 = .ok (.iconst 0, 1) := by decide +kernel
theorem d_jdk_42_method_3_3 : decode jdk_42_method_3_code 3 = .ok (.aload_n 1, 1) := by decide +kernel
theorem d_jdk_42_method_3_4 : decode jdk_42_method_3_code 4 = .ok (.arraylength, 1) := by decide +kernel
theorem d_jdk_42_method_3_5 : decode jdk_42_method_3_code 5 = .ok (.aconst_null, 1) := by decide +kernel
theorem pd__28_5bCIILjava_2flang_2fVoid_3b_29V : parseMethodDescriptor "([CIILjava/lang/Void;)V" = some ⟨[(.array .char), .int, .int, (.object "java/lang/Void")], none⟩ := by decide +kernel
theorem d_jdk_42_method_3_6 : decode jdk_42_method_3_code 6 = .ok (.invokespecial 27, 3) := by decide +kernel
theorem d_jdk_42_method_3_9 : decode jdk_42_method_3_code 9 = .ok (.return_, 1) := by decide +kernel
set_option maxRecDepth 65536 in
set_option maxHeartbeats 40000000 in
theorem rmIC1 (l : Launch) (Z : State) (a0 : Array Value) (hw : ∀ d ∈ tables_1, d.before a0 Z = true) (ws : List Jvm.Cond) (a : Addr) (d : Addr) (c0 : Int32) (k1 : ClassId) (zc : Int32) (h0 : Heap) (n0 : Nat) (Z0 : n0 ≤ h0.size) (E_a : Exa Z h0 a "java/lang/String") (F_v : Fld Z h0 a "java/lang/String" "value" "[B" .null) (F_c : Fld Z h0 a "java/lang/String" "coder" "B" (.int (0 : Int32))) (g_a : n0 ≤ a) (V_d : Arv Z h0 d k1 .char (1 : Int32) [(.int c0)] (.int (0 : Int32))) (Sc : Sta Z h0 "java/lang/String" "COMPACT_STRINGS" "Z" (.int zc)) (hzc : ¬ zc = 0) (u0 : ¬ ((255 : Int32) < c0)) :
    MetFree l (⟨"java/lang/String", "<init>", "([C)V"⟩ : MethodName) (head1 (Jvm.Cond.code (⟨"java/lang/String", "<init>", "([C)V"⟩ : MethodName) jdk_42_method_3_code 2 none :: ws) ({ frames := 3, cells := 1, slots := 1, locals := 52 } : Room)) (fun ar_ U => ar_ = #[(.ref a), (.ref d)] ∧ Z.Warmed39 U.vm ∧ U.heap = h0) (fun _ _ _ _ _ => True) (fun _ U o U' => Phi U (Q_rmIC1 Z a d c0 k1 zc h0 n0) ({ frames := 3, cells := 1, slots := 1, locals := 52 } : Room).cells ({ frames := 3, cells := 1, slots := 1, locals := 52 } : Room).slots o U') := by
  refine MetFree.of_bodySF (plainFor_of_name pn_java_lang_String) hisR ?_
  intro p e s m args below meth c s₁ Bd hml0 hP hK
  obtain ⟨rfl, hZ, hh⟩ := hP
  have hx := Bd.exec
  have hby := Bd.bytes
  have hlk := Bd.notSynchronized
  have hml : c.maxLocals = 2 := hml0
  have hown : s.vm.findClass "java/lang/String" = some m.cls := findClass_of_methodNamed Bd.named
  have hown0 := hown
  have hnm := (name_of_methodNamed Bd.named Bd.method).1
  have hret := Bd.returns
  have X0 : Stand p l e ({ frames := 3, cells := 1, slots := 1, locals := 52 } : Room) s m #[(.ref a), (.ref d)] below meth c s₁ [] 0 0 := Stand.of_body Bd
  have e0 : s₁.heap = h0 := by rw [← hh, Bd.state]; rfl
  have N0 := Fr.nil n0
  have sz := Z0
  have K := Keep.refl h0 [a]
  show Runs p.tables e below (Phi s (Q_rmIC1 Z a d c0 k1 zc h0 n0) ({ frames := 3, cells := 1, slots := 1, locals := 52 } : Room).cells ({ frames := 3, cells := 1, slots := 1, locals := 52 } : Room).slots) _
  refine Runs.st (fun t' k' => castTop (ef_jdk_42_method_3_RR m a d ) k') ?_
  show Runs p.tables e below _ (s₁.setTop (mkF m 0 #[.val (.ref a), .val (.ref d)] []))
  refine Runs.st (fun t' k' => XS.aloadN X0.here hx rfl (hb hby d_jdk_42_method_3_0) rfl rfl k') ?_
  show Runs p.tables e below _ (s₁.setTop (mkF m 1 #[.val (.ref a), .val (.ref d)] [(.ref a)]))
  refine Runs.st (fun t' k' => XS.aloadN X0.here hx rfl (hb hby d_jdk_42_method_3_1) rfl rfl k') ?_
  show Runs p.tables e below _ (s₁.setTop (mkF m 2 #[.val (.ref a), .val (.ref d)] [(.ref d), (.ref a)]))
  refine Runs.st (fun t' k' => XS.iconst X0.here hx rfl (hb hby d_jdk_42_method_3_2) k') ?_
  show Runs p.tables e below _ (s₁.setTop (mkF m 3 #[.val (.ref a), .val (.ref d)] [(.int (0 : Int32)), (.ref d), (.ref a)]))
  refine Runs.st (fun t' k' => XS.aloadN X0.here hx rfl (hb hby d_jdk_42_method_3_3) rfl rfl k') ?_
  show Runs p.tables e below _ (s₁.setTop (mkF m 4 #[.val (.ref a), .val (.ref d)] [(.ref d), (.int (0 : Int32)), (.ref d), (.ref a)]))
  obtain ⟨cl1_, Ar1_, -, S1_, M1_, -, -⟩ := id V_d
  refine Runs.st (X0.arraylength hx (by rw [e0]; exact Ar1_.1) (State.isArrayOf_alike hZ.alike Ar1_.2.1) (g := (mkF m 4 #[.val (.ref a), .val (.ref d)] [(.ref d), (.int (0 : Int32)), (.ref d), (.ref a)])) rfl rfl (hb hby d_jdk_42_method_3_4)) ?_
  rw [len_of S1_ M1_]
  show Runs p.tables e below _ (s₁.setTop (mkF m 5 #[.val (.ref a), .val (.ref d)] [(.int (1 : Int32)), (.int (0 : Int32)), (.ref d), (.ref a)]))
  refine Runs.st (fun t' k' => XS.aconstNull X0.here hx rfl (hb hby d_jdk_42_method_3_5) k') ?_
  show Runs p.tables e below _ (s₁.setTop (mkF m 6 #[.val (.ref a), .val (.ref d)] [.null, (.int (1 : Int32)), (.int (0 : Int32)), (.ref d), (.ref a)]))
  obtain ⟨_, _, ⟨T2_, L2_, k2_, n2_⟩, -, X2_, ⟨Lc2_, hQ2_, l2_, y2_, z2_⟩, st2_⟩ := X0.specialBack hx (y := (⟨"java/lang/String", "<init>", "([CIILjava/lang/Void;)V"⟩ : MethodName)) rfl hown (mvT hZ (hw _ (List.mem_of_getElem? (i := 14) rfl))) (mvT hZ (hw _ (List.mem_of_getElem? (i := 15) rfl))) (mvT hZ (hw _ (List.mem_of_getElem? (i := 17) rfl))) (by decide) (backOf (W := 0) (rmID1 l Z a0 hw [] a d c0 k1 zc h0 n0 sz E_a F_v F_c g_a V_d Sc hzc u0) hZ (hw _ (List.mem_of_getElem? (i := 17) rfl)) (hw _ (List.mem_of_getElem? (i := 10) rfl)) (by decide) (by decide)) (g := (mkF m 6 #[.val (.ref a), .val (.ref d)] [.null, (.int (1 : Int32)), (.int (0 : Int32)), (.ref d), (.ref a)])) rfl (by rw [hml]; rfl) (Steps.refl _) (a := a) (argsL := [(.ref d), (.int (0 : Int32)), (.int (1 : Int32)), .null]) (rest := []) (lenOf pd__28_5bCIILjava_2flang_2fVoid_3b_29V rfl) rfl (by show 2 * 0 + _ ≤ _; exact Nat.le_of_eq rfl) (hb hby d_jdk_42_method_3_6) (fun _ _ => ⟨rfl, e0, (by decide : 0 + 1 ≤ _), (by decide : 0 + 1 ≤ _)⟩)
  dsimp only [Pt.U, Pt.locs, Pt.cells, Pt.slots] at X2_ l2_ y2_ z2_ st2_ hQ2_
  subst l2_ y2_ z2_
  obtain ⟨rfl, N2_q, K2_, E_a, F_c, b, k2, szb, F_v, V_b⟩ := hQ2_
  have N2_ := Fr.app N0 N2_q
  refine Runs.tr st2_ ?_
  replace X2_ := wider X2_ (c' := 1) (s' := 1) (by decide) (by decide)
  replace sz := Nat.le_trans sz K2_.1
  replace K := K.trans K2_ (allS (Or.inl (List.mem_of_getElem? (i := 0) rfl)) all0)
  show Runs p.tables e below _ (T2_.setTop (mkF m 9 #[.val (.ref a), .val (.ref d)] []))
  refine Runs.ret X2_ hlk (v := none) (fun _ => rfl) (by decide) (by decide) ?_ (fun fs hr => X2_.returnOut hx hret (hb hby d_jdk_42_method_3_9) hr)
  exact ⟨rfl, N2_, K, E_a, F_c, b, k2, szb, F_v, V_b⟩
def Q_rmRec (Z : State) (a : Addr)  (h0 : Heap) (n0 : Nat) : Option Value → Heap → List Loc → Prop := (fun v h L => v = none ∧ Fr n0 L ∧ h = h0)
theorem pn_java_lang_Record : plainName "java/lang/Record" = true := by first | (simp [plainName, overriddenIn]; done) | decide +kernel
theorem ef_jdk_30_method_1_R (m : MethodId) (x0 : Addr)  : entryFrame m #[(.ref x0)] 1 = mkF m 0 #[.val (.ref x0)] [] := by first | (simp [entryFrame, mkF, argsToLocals, Value.category]; done) | rfl
theorem d_jdk_30_method_1_0 : decode jdk_30_method_1_code 0 = .ok (.aload_n 0, 1) := by decide +kernel
theorem d_jdk_30_method_1_1 : decode jdk_30_method_1_code 1 = .ok (.invokespecial 1, 3) := by decide +kernel
theorem d_jdk_30_method_1_4 : decode jdk_30_method_1_code 4 = .ok (.return_, 1) := by decide +kernel
set_option maxRecDepth 65536 in
set_option maxHeartbeats 40000000 in
theorem rmRec (l : Launch) (Z : State) (a0 : Array Value) (hw : ∀ d ∈ tables_1, d.before a0 Z = true) (ws : List Jvm.Cond) (a : Addr)  (h0 : Heap) (n0 : Nat) (Z0 : n0 ≤ h0.size)  :
    MetFree l (⟨"java/lang/Record", "<init>", "()V"⟩ : MethodName) (head1 (Jvm.Cond.code (⟨"java/lang/Record", "<init>", "()V"⟩ : MethodName) jdk_30_method_1_code 1 none :: ws) ({ frames := 1, cells := 0, slots := 0, locals := 12 } : Room)) (fun ar_ U => ar_ = #[(.ref a)] ∧ Z.Warmed39 U.vm ∧ U.heap = h0) (fun _ _ _ _ _ => True) (fun _ U o U' => Phi U (Q_rmRec Z a h0 n0) ({ frames := 1, cells := 0, slots := 0, locals := 12 } : Room).cells ({ frames := 1, cells := 0, slots := 0, locals := 12 } : Room).slots o U') := by
  refine MetFree.of_bodySF (plainFor_of_name pn_java_lang_Record) hisR ?_
  intro p e s m args below meth c s₁ Bd hml0 hP hK
  obtain ⟨rfl, hZ, hh⟩ := hP
  have hx := Bd.exec
  have hby := Bd.bytes
  have hlk := Bd.notSynchronized
  have hml : c.maxLocals = 1 := hml0
  have hown : s.vm.findClass "java/lang/Record" = some m.cls := findClass_of_methodNamed Bd.named
  have hown0 := hown
  have hnm := (name_of_methodNamed Bd.named Bd.method).1
  have hret := Bd.returns
  have X0 : Stand p l e ({ frames := 1, cells := 0, slots := 0, locals := 12 } : Room) s m #[(.ref a)] below meth c s₁ [] 0 0 := Stand.of_body Bd
  have e0 : s₁.heap = h0 := by rw [← hh, Bd.state]; rfl
  have N0 := Fr.nil n0
  have sz := Z0
  have K := Keep.refl h0 []
  show Runs p.tables e below (Phi s (Q_rmRec Z a h0 n0) ({ frames := 1, cells := 0, slots := 0, locals := 12 } : Room).cells ({ frames := 1, cells := 0, slots := 0, locals := 12 } : Room).slots) _
  refine Runs.st (fun t' k' => castTop (ef_jdk_30_method_1_R m a ) k') ?_
  show Runs p.tables e below _ (s₁.setTop (mkF m 0 #[.val (.ref a)] []))
  refine Runs.st (fun t' k' => XS.aloadN X0.here hx rfl (hb hby d_jdk_30_method_1_0) rfl rfl k') ?_
  show Runs p.tables e below _ (s₁.setTop (mkF m 1 #[.val (.ref a)] [(.ref a)]))
  obtain ⟨T1_, X1_, e1_, st1_⟩ := initO X0 hx hZ hown (hw _ (List.mem_of_getElem? (i := 45) rfl)) (hw _ (List.mem_of_getElem? (i := 19) rfl)) (hw _ (List.mem_of_getElem? (i := 20) rfl)) e0 (g := (mkF m 1 #[.val (.ref a)] [(.ref a)])) rfl (by rw [hml]; rfl) rfl (hb hby d_jdk_30_method_1_1) (by decide) (W := 0) (by show 2 * 0 + _ ≤ _; exact Nat.le_of_eq rfl) (by decide)
  refine Runs.st (st1_) ?_
  show Runs p.tables e below _ (T1_.setTop (mkF m 4 #[.val (.ref a)] []))
  refine Runs.ret X1_ hlk (v := none) (fun _ => rfl) (by decide) (by decide) ?_ (fun fs hr => X1_.returnOut hx hret (hb hby d_jdk_30_method_1_4) hr)
  try rw [e1_]
  exact ⟨rfl, N0, rfl⟩
def Q_rmReq (Z : State) (a : Addr) (d : Addr)  (h0 : Heap) (n0 : Nat) : Option Value → Heap → List Loc → Prop := (fun v h L => v = some (.ref a) ∧ Fr n0 L ∧ h = h0)
theorem pn_java_util_Objects : plainName "java/util/Objects" = true := by first | (simp [plainName, overriddenIn]; done) | decide +kernel
theorem ef_jdk_31_method_11_RR (m : MethodId) (x0 : Addr) (x1 : Addr)  : entryFrame m #[(.ref x0), (.ref x1)] 2 = mkF m 0 #[.val (.ref x0), .val (.ref x1)] [] := by first | (simp [entryFrame, mkF, argsToLocals, Value.category]; done) | rfl
theorem d_jdk_31_method_11_0 : decode jdk_31_method_11_code 0 = .ok (.aload_n 0, 1) := by decide +kernel
theorem d_jdk_31_method_11_1 : decode jdk_31_method_11_code 1 = .ok (.ifnonnull 12, 3) := by decide +kernel
theorem d_jdk_31_method_11_13 : decode jdk_31_method_11_code 13 = .ok (.aload_n 0, 1) := by decide +kernel
theorem d_jdk_31_method_11_14 : decode jdk_31_method_11_code 14 = .ok (.areturn, 1) := by decide +kernel
set_option maxRecDepth 65536 in
set_option maxHeartbeats 40000000 in
theorem rmReq (l : Launch) (Z : State) (a0 : Array Value) (hw : ∀ d ∈ tables_1, d.before a0 Z = true) (ws : List Jvm.Cond) (a : Addr) (d : Addr)  (h0 : Heap) (n0 : Nat) (Z0 : n0 ≤ h0.size)  :
    MetFree l (⟨"java/util/Objects", "requireNonNull", "(Ljava/lang/Object;Ljava/lang/String;)Ljava/lang/Object;"⟩ : MethodName) (head1 (Jvm.Cond.code (⟨"java/util/Objects", "requireNonNull", "(Ljava/lang/Object;Ljava/lang/String;)Ljava/lang/Object;"⟩ : MethodName) jdk_31_method_11_code 2 (some (.object "java/lang/Object")) :: ws) ({ frames := 0, cells := 0, slots := 0, locals := 0 } : Room)) (fun ar_ U => ar_ = #[(.ref a), (.ref d)] ∧ Z.Warmed39 U.vm ∧ U.heap = h0) (fun _ _ _ _ _ => True) (fun _ U o U' => Phi U (Q_rmReq Z a d h0 n0) ({ frames := 0, cells := 0, slots := 0, locals := 0 } : Room).cells ({ frames := 0, cells := 0, slots := 0, locals := 0 } : Room).slots o U') := by
  refine MetFree.of_bodySF (plainFor_of_name pn_java_util_Objects) hisR ?_
  intro p e s m args below meth c s₁ Bd hml0 hP hK
  obtain ⟨rfl, hZ, hh⟩ := hP
  have hx := Bd.exec
  have hby := Bd.bytes
  have hlk := Bd.notSynchronized
  have hml : c.maxLocals = 2 := hml0
  have hown : s.vm.findClass "java/util/Objects" = some m.cls := findClass_of_methodNamed Bd.named
  have hown0 := hown
  have hnm := (name_of_methodNamed Bd.named Bd.method).1
  have hret := Bd.returns
  have X0 : Stand p l e ({ frames := 0, cells := 0, slots := 0, locals := 0 } : Room) s m #[(.ref a), (.ref d)] below meth c s₁ [] 0 0 := Stand.of_body Bd
  have e0 : s₁.heap = h0 := by rw [← hh, Bd.state]; rfl
  have N0 := Fr.nil n0
  have sz := Z0
  have K := Keep.refl h0 []
  show Runs p.tables e below (Phi s (Q_rmReq Z a d h0 n0) ({ frames := 0, cells := 0, slots := 0, locals := 0 } : Room).cells ({ frames := 0, cells := 0, slots := 0, locals := 0 } : Room).slots) _
  refine Runs.st (fun t' k' => castTop (ef_jdk_31_method_11_RR m a d ) k') ?_
  show Runs p.tables e below _ (s₁.setTop (mkF m 0 #[.val (.ref a), .val (.ref d)] []))
  refine Runs.st (fun t' k' => XS.aloadN X0.here hx rfl (hb hby d_jdk_31_method_11_0) rfl rfl k') ?_
  show Runs p.tables e below _ (s₁.setTop (mkF m 1 #[.val (.ref a), .val (.ref d)] [(.ref a)]))
  refine Runs.st (fun t' k' => XS.ifnonnullYes X0.here hx rfl (pc0 := 1) (pc' := 13) rfl (hb hby d_jdk_31_method_11_1) rfl (by decide) (by decide) k') ?_
  show Runs p.tables e below _ (s₁.setTop (mkF m 13 #[.val (.ref a), .val (.ref d)] []))
  refine Runs.st (fun t' k' => XS.aloadN X0.here hx rfl (hb hby d_jdk_31_method_11_13) rfl rfl k') ?_
  show Runs p.tables e below _ (s₁.setTop (mkF m 14 #[.val (.ref a), .val (.ref d)] [(.ref a)]))
  refine Runs.ret X0 hlk (v := (some (.ref a))) (fun h => by rw [hret] at h; cases h) (by decide) (by decide) ?_ (fun fs hr => retOut X0 hx hret rfl (Or.inr (Or.inr (Or.inr (Or.inr ⟨rfl, rfl, rfl⟩)))) (hb hby d_jdk_31_method_11_14) hr)
  try rw [e0]
  exact ⟨rfl, N0, rfl⟩
def Q_rmEmp (Z : State) (a : Addr) (b : Addr) (n : Int32) (k : ClassId) (vs : List Value) (h0 : Heap) (n0 : Nat) : Option Value → Heap → List Loc → Prop := (fun v h L => v = some (.int (0 : Int32)) ∧ Fr n0 L ∧ h = h0)
theorem ef_jdk_42_method_55_R (m : MethodId) (x0 : Addr)  : entryFrame m #[(.ref x0)] 1 = mkF m 0 #[.val (.ref x0)] [] := by first | (simp [entryFrame, mkF, argsToLocals, Value.category]; done) | rfl
theorem d_jdk_42_method_55_0 : decode jdk_42_method_55_code 0 = .ok (.aload_n 0, 1) := by decide +kernel
theorem d_jdk_42_method_55_1 : decode jdk_42_method_55_code 1 = .ok (.getfield 9, 3) := by decide +kernel
theorem d_jdk_42_method_55_4 : decode jdk_42_method_55_code 4 = .ok (.arraylength, 1) := by decide +kernel
theorem d_jdk_42_method_55_5 : decode jdk_42_method_55_code 5 = .ok (.ifCond .ne 7, 3) := by decide +kernel
theorem d_jdk_42_method_55_12 : decode jdk_42_method_55_code 12 = .ok (.iconst 0, 1) := by decide +kernel
theorem d_jdk_42_method_55_13 : decode jdk_42_method_55_code 13 = .ok (.ireturn, 1) := by decide +kernel
set_option maxRecDepth 65536 in
set_option maxHeartbeats 40000000 in
theorem rmEmp (l : Launch) (Z : State) (a0 : Array Value) (hw : ∀ d ∈ tables_1, d.before a0 Z = true) (ws : List Jvm.Cond) (a : Addr) (b : Addr) (n : Int32) (k : ClassId) (vs : List Value) (h0 : Heap) (n0 : Nat) (Z0 : n0 ≤ h0.size) (Fv : Fld Z h0 a "java/lang/String" "value" "[B" (.ref b)) (Vb : Arv Z h0 b k .byte n vs (.int (0 : Int32))) (hn : ¬ n = 0) :
    MetFree l (⟨"java/lang/String", "isEmpty", "()Z"⟩ : MethodName) (head1 (Jvm.Cond.code (⟨"java/lang/String", "isEmpty", "()Z"⟩ : MethodName) jdk_42_method_55_code 1 (some .boolean) :: ws) ({ frames := 0, cells := 0, slots := 0, locals := 0 } : Room)) (fun ar_ U => ar_ = #[(.ref a)] ∧ Z.Warmed39 U.vm ∧ U.heap = h0) (fun _ _ _ _ _ => True) (fun _ U o U' => Phi U (Q_rmEmp Z a b n k vs h0 n0) ({ frames := 0, cells := 0, slots := 0, locals := 0 } : Room).cells ({ frames := 0, cells := 0, slots := 0, locals := 0 } : Room).slots o U') := by
  refine MetFree.of_bodySF (plainFor_of_name pn_java_lang_String) hisR ?_
  intro p e s m args below meth c s₁ Bd hml0 hP hK
  obtain ⟨rfl, hZ, hh⟩ := hP
  have hx := Bd.exec
  have hby := Bd.bytes
  have hlk := Bd.notSynchronized
  have hml : c.maxLocals = 1 := hml0
  have hown : s.vm.findClass "java/lang/String" = some m.cls := findClass_of_methodNamed Bd.named
  have hown0 := hown
  have hnm := (name_of_methodNamed Bd.named Bd.method).1
  have hret := Bd.returns
  have X0 : Stand p l e ({ frames := 0, cells := 0, slots := 0, locals := 0 } : Room) s m #[(.ref a)] below meth c s₁ [] 0 0 := Stand.of_body Bd
  have e0 : s₁.heap = h0 := by rw [← hh, Bd.state]; rfl
  have N0 := Fr.nil n0
  have sz := Z0
  have K := Keep.refl h0 []
  show Runs p.tables e below (Phi s (Q_rmEmp Z a b n k vs h0 n0) ({ frames := 0, cells := 0, slots := 0, locals := 0 } : Room).cells ({ frames := 0, cells := 0, slots := 0, locals := 0 } : Room).slots) _
  refine Runs.st (fun t' k' => castTop (ef_jdk_42_method_55_R m a ) k') ?_
  show Runs p.tables e below _ (s₁.setTop (mkF m 0 #[.val (.ref a)] []))
  refine Runs.st (fun t' k' => XS.aloadN X0.here hx rfl (hb hby d_jdk_42_method_55_0) rfl rfl k') ?_
  show Runs p.tables e below _ (s₁.setTop (mkF m 1 #[.val (.ref a)] [(.ref a)]))
  obtain ⟨T1_, X1_, e1_, st1_⟩ := getF X0 hx hZ hown (host := "") (Or.inl (hw _ (List.mem_of_getElem? (i := 35) rfl))) Via.refl e0 Fv (g := (mkF m 1 #[.val (.ref a)] [(.ref a)])) rfl rfl (hb hby d_jdk_42_method_55_1)
  refine Runs.st (st1_) ?_
  show Runs p.tables e below _ (T1_.setTop (mkF m 4 #[.val (.ref a)] [(.ref b)]))
  obtain ⟨cl2_, Ar2_, -, S2_, M2_, -, -⟩ := id Vb
  refine Runs.st (X1_.arraylength hx (by rw [e1_]; exact Ar2_.1) (State.isArrayOf_alike hZ.alike Ar2_.2.1) (g := (mkF m 4 #[.val (.ref a)] [(.ref b)])) rfl rfl (hb hby d_jdk_42_method_55_4)) ?_
  rw [len_of S2_ M2_]
  show Runs p.tables e below _ (T1_.setTop (mkF m 5 #[.val (.ref a)] [(.int n)]))
  refine Runs.st (fun t' k' => XS.ifYes X1_.here hx rfl (pc0 := 5) (pc' := 12) rfl (hb hby d_jdk_42_method_55_5) rfl ((if0 _ _).trans (feq hn).2) (by decide) (by decide) k') ?_
  show Runs p.tables e below _ (T1_.setTop (mkF m 12 #[.val (.ref a)] []))
  refine Runs.st (fun t' k' => XS.iconst X1_.here hx rfl (hb hby d_jdk_42_method_55_12) k') ?_
  show Runs p.tables e below _ (T1_.setTop (mkF m 13 #[.val (.ref a)] [(.int (0 : Int32))]))
  refine Runs.ret X1_ hlk (v := (some (.int (0 : Int32)))) (fun h => by rw [hret] at h; cases h) (by decide) (by decide) ?_ (fun fs hr => retN X1_ hx (t := .boolean) hret (by simp) (hb hby d_jdk_42_method_55_13) hr)
  try rw [e1_]
  exact ⟨rfl, N0, rfl⟩
def Q_rmVar (Z : State) (a : Addr) (sr : Addr) (tr : Addr) (b : Addr) (k : ClassId) (vs : List Value) (h0 : Heap) (n0 : Nat) : Option Value → Heap → List Loc → Prop := (fun v h L => v = none ∧ Fr n0 L ∧ Keep h0 h [a] ∧ Exa Z h a "com/example/final_marking/finalmarking/net/Variable" ∧ Fld Z h a "com/example/final_marking/finalmarking/net/Variable" "name" "Ljava/lang/String;" (.ref sr) ∧ Fld Z h a "com/example/final_marking/finalmarking/net/Variable" "type" "Lcom/example/final_marking/finalmarking/net/Variable$Type;" (.ref tr))
theorem pn_com_example_final_marking_finalmarking_net_Variable : plainName "com/example/final_marking/finalmarking/net/Variable" = true := by first | (simp [plainName, overriddenIn]; done) | decide +kernel
theorem ef_prog_66_method_1_RRR (m : MethodId) (x0 : Addr) (x1 : Addr) (x2 : Addr)  : entryFrame m #[(.ref x0), (.ref x1), (.ref x2)] 3 = mkF m 0 #[.val (.ref x0), .val (.ref x1), .val (.ref x2)] [] := by first | (simp [entryFrame, mkF, argsToLocals, Value.category]; done) | rfl
theorem d_prog_66_method_1_0 : decode prog_66_method_1_code 0 = .ok (.aload_n 0, 1) := by decide +kernel
theorem pd__28_29V : parseMethodDescriptor "()V" = some ⟨[], none⟩ := by decide +kernel
theorem d_prog_66_method_1_1 : decode prog_66_method_1_code 1 = .ok (.invokespecial 1, 3) := by decide +kernel
theorem d_prog_66_method_1_4 : decode prog_66_method_1_code 4 = .ok (.aload_n 2, 1) := by decide +kernel
theorem d_prog_66_method_1_5 : decode prog_66_method_1_code 5 = .ok (.ldc 7, 2) := by decide +kernel
theorem pd__28Ljava_2flang_2fObject_3bLjava_2flang_2fString_3b_29Ljava_2flang_2fObject_3b : parseMethodDescriptor "(Ljava/lang/Object;Ljava/lang/String;)Ljava/lang/Object;" = some ⟨[(.object "java/lang/Object"), (.object "java/lang/String")], some (.object "java/lang/Object")⟩ := by decide +kernel
theorem d_prog_66_method_1_7 : decode prog_66_method_1_code 7 = .ok (.invokestatic 9, 3) := by decide +kernel
theorem d_prog_66_method_1_10 : decode prog_66_method_1_code 10 = .ok (.pop, 1) := by decide +kernel
theorem d_prog_66_method_1_11 : decode prog_66_method_1_code 11 = .ok (.aload_n 1, 1) := by decide +kernel
theorem pd__28_29Z : parseMethodDescriptor "()Z" = some ⟨[], some .boolean⟩ := by decide +kernel
theorem d_prog_66_method_1_12 : decode prog_66_method_1_code 12 = .ok (.invokevirtual 15, 3) := by decide +kernel
theorem d_prog_66_method_1_15 : decode prog_66_method_1_code 15 = .ok (.ifCond .eq 13, 3) := by decide +kernel
theorem d_prog_66_method_1_28 : decode prog_66_method_1_code 28 = .ok (.aload_n 0, 1) := by decide +kernel
theorem d_prog_66_method_1_29 : decode prog_66_method_1_code 29 = .ok (.aload_n 1, 1) := by decide +kernel
theorem d_prog_66_method_1_30 : decode prog_66_method_1_code 30 = .ok (.putfield 28, 3) := by decide +kernel
theorem d_prog_66_method_1_33 : decode prog_66_method_1_code 33 = .ok (.aload_n 0, 1) := by decide +kernel
theorem d_prog_66_method_1_34 : decode prog_66_method_1_code 34 = .ok (.aload_n 2, 1) := by decide +kernel
theorem d_prog_66_method_1_35 : decode prog_66_method_1_code 35 = .ok (.putfield 34, 3) := by decide +kernel
theorem d_prog_66_method_1_38 : decode prog_66_method_1_code 38 = .ok (.return_, 1) := by decide +kernel
set_option maxRecDepth 65536 in
set_option maxHeartbeats 40000000 in
theorem rmVar (l : Launch) (Z : State) (a0 : Array Value) (hw : ∀ d ∈ tables_1, d.before a0 Z = true) (ws : List Jvm.Cond) (a : Addr) (sr : Addr) (tr : Addr) (b : Addr) (k : ClassId) (vs : List Value) (h0 : Heap) (n0 : Nat) (Z0 : n0 ≤ h0.size) (E_a : Exa Z h0 a "com/example/final_marking/finalmarking/net/Variable") (F_n : Fld Z h0 a "com/example/final_marking/finalmarking/net/Variable" "name" "Ljava/lang/String;" .null) (F_t : Fld Z h0 a "com/example/final_marking/finalmarking/net/Variable" "type" "Lcom/example/final_marking/finalmarking/net/Variable$Type;" .null) (g_a : n0 ≤ a) (E_s : Exa Z h0 sr "java/lang/String") (F_v : Fld Z h0 sr "java/lang/String" "value" "[B" (.ref b)) (V_b : Arv Z h0 b k .byte (1 : Int32) vs (.int (0 : Int32))) (ne_sr_a : sr ≠ a) (ne_b_a : b ≠ a) :
    MetFree l (⟨"com/example/final_marking/finalmarking/net/Variable", "<init>", "(Ljava/lang/String;Lcom/example/final_marking/finalmarking/net/Variable$Type;)V"⟩ : MethodName) (head1 (Jvm.Cond.code (⟨"com/example/final_marking/finalmarking/net/Variable", "<init>", "(Ljava/lang/String;Lcom/example/final_marking/finalmarking/net/Variable$Type;)V"⟩ : MethodName) prog_66_method_1_code 3 none :: ws) ({ frames := 2, cells := 2, slots := 20, locals := 24 } : Room)) (fun ar_ U => ar_ = #[(.ref a), (.ref sr), (.ref tr)] ∧ Z.Warmed39 U.vm ∧ U.heap = h0) (fun _ _ _ _ _ => True) (fun _ U o U' => PhiW U (Q_rmVar Z a sr tr b k vs h0 n0) ({ frames := 2, cells := 2, slots := 20, locals := 24 } : Room).cells ({ frames := 2, cells := 2, slots := 20, locals := 24 } : Room).slots o U') := by
  refine MetFree.of_bodySF (plainFor_of_name pn_com_example_final_marking_finalmarking_net_Variable) hisR ?_
  intro p e s m args below meth c s₁ Bd hml0 hP hK
  obtain ⟨rfl, hZ, hh⟩ := hP
  have hS : s.Since s.vm h0.size := (State.WarmedH.refl s).since _
  have hk := Nat.le_refl h0.size
  have hZ0 := hZ
  have hx := Bd.exec
  have hby := Bd.bytes
  have hlk := Bd.notSynchronized
  have hml : c.maxLocals = 3 := hml0
  have hown : s.vm.findClass "com/example/final_marking/finalmarking/net/Variable" = some m.cls := findClass_of_methodNamed Bd.named
  have hown0 := hown
  have hnm := (name_of_methodNamed Bd.named Bd.method).1
  have hret := Bd.returns
  have X0 : Stand p l e ({ frames := 2, cells := 2, slots := 20, locals := 24 } : Room) s m #[(.ref a), (.ref sr), (.ref tr)] below meth c s₁ [] 0 0 := Stand.of_body Bd
  have e0 : s₁.heap = h0 := by rw [← hh, Bd.state]; rfl
  have N0 := Fr.nil n0
  have sz := Z0
  have K := Keep.refl h0 [a]
  show Runs p.tables e below (PhiW s (Q_rmVar Z a sr tr b k vs h0 n0) ({ frames := 2, cells := 2, slots := 20, locals := 24 } : Room).cells ({ frames := 2, cells := 2, slots := 20, locals := 24 } : Room).slots) _
  refine Runs.st (fun t' k' => castTop (ef_prog_66_method_1_RRR m a sr tr ) k') ?_
  show Runs p.tables e below _ (s₁.setTop (mkF m 0 #[.val (.ref a), .val (.ref sr), .val (.ref tr)] []))
  refine Runs.st (fun t' k' => XS.aloadN X0.here hx rfl (hb hby d_prog_66_method_1_0) rfl rfl k') ?_
  show Runs p.tables e below _ (s₁.setTop (mkF m 1 #[.val (.ref a), .val (.ref sr), .val (.ref tr)] [(.ref a)]))
  obtain ⟨_, _, ⟨T1_, L1_, k1_, n1_⟩, -, X1_, ⟨Lc1_, hQ1_, l1_, y1_, z1_⟩, st1_⟩ := X0.specialBack hx (y := (⟨"java/lang/Record", "<init>", "()V"⟩ : MethodName)) rfl hown (mvT hZ (hw _ (List.mem_of_getElem? (i := 40) rfl))) (mvT hZ (hw _ (List.mem_of_getElem? (i := 41) rfl))) (mvT hZ (hw _ (List.mem_of_getElem? (i := 44) rfl))) (by decide) (backOf (W := 0) (rmRec l Z a0 hw [] a h0 n0 sz) hZ (hw _ (List.mem_of_getElem? (i := 44) rfl)) (hw _ (List.mem_of_getElem? (i := 43) rfl)) (by decide) (by decide)) (g := (mkF m 1 #[.val (.ref a), .val (.ref sr), .val (.ref tr)] [(.ref a)])) rfl (by rw [hml]; rfl) (Steps.refl _) (a := a) (argsL := []) (rest := []) (lenOf pd__28_29V rfl) rfl (by show 2 * 0 + _ ≤ _; exact Nat.le_of_eq rfl) (hb hby d_prog_66_method_1_1) (fun _ _ => ⟨rfl, e0, (by decide : 0 + 0 ≤ _), (by decide : 0 + 0 ≤ _)⟩)
  dsimp only [Pt.U, Pt.locs, Pt.cells, Pt.slots] at X1_ l1_ y1_ z1_ st1_ hQ1_
  subst l1_ y1_ z1_
  obtain ⟨rfl, N1_q, e1_⟩ := hQ1_
  have N1_ := Fr.app N0 N1_q
  refine Runs.tr st1_ ?_
  replace X1_ := wider X1_ (c' := 0) (s' := 0) (by decide) (by decide)
  show Runs p.tables e below _ (T1_.setTop (mkF m 4 #[.val (.ref a), .val (.ref sr), .val (.ref tr)] []))
  refine Runs.st (fun t' k' => XS.aloadN X1_.here hx rfl (hb hby d_prog_66_method_1_4) rfl rfl k') ?_
  show Runs p.tables e below _ (T1_.setTop (mkF m 5 #[.val (.ref a), .val (.ref sr), .val (.ref tr)] [(.ref tr)]))
  have wS2_ : ∀ a ∈ Bundle.stringAtoms, a.before a0 Z = true := by
    intro a ha
    simp only [Bundle.stringAtoms, Bundle.sN, List.mem_cons, List.not_mem_nil, or_false] at ha
    rcases ha with rfl | rfl | rfl | rfl | rfl | rfl | rfl
    · exact (hw _ (List.mem_of_getElem? (i := 10) rfl))
    · exact (hw _ (List.mem_of_getElem? (i := 9) rfl))
    · exact (hw _ (List.mem_of_getElem? (i := 26) rfl))
    · exact (hw _ (List.mem_of_getElem? (i := 36) rfl))
    · exact (hw _ (List.mem_of_getElem? (i := 34) rfl))
    · exact (hw _ (List.mem_of_getElem? (i := 47) rfl))
    · exact (hw _ (List.mem_of_getElem? (i := 48) rfl))
  obtain ⟨lt, T2_, h2_, j2_, X2_, e2_, E2_, hS2_, hk2_, hZ2_, hown2_, st2_⟩ := ldcS (s := s) (vm0 := s.vm) (X := (show Stand p l e ({ frames := 2, cells := 2, slots := 20, locals := 24 } : Room) (s.setVm s.vm) m _ below meth c _ _ _ _ from X1_)) hx hZ hown (hw _ (List.mem_of_getElem? (i := 46) rfl)) wS2_ e1_ hS hk (g := (mkF m 5 #[.val (.ref a), .val (.ref sr), .val (.ref tr)] [(.ref tr)])) rfl (hb hby d_prog_66_method_1_5) (n := 16) (by decide) (by decide) (by decide) (by decide)
  refine Runs.st st2_ ?_
  replace E_a := E_a.ext E2_
  replace F_n := F_n.ext E2_
  replace F_t := F_t.ext E2_
  replace E_s := E_s.ext E2_
  replace F_v := F_v.ext E2_
  replace V_b := V_b.ext E2_
  replace sz := Nat.le_trans sz E2_.1
  replace K := K.ext E2_
  replace hk := Nat.le_trans hk E2_.1
  have hS := hS2_
  have hk := hk2_
  have hZ := hZ2_
  have hown := hown2_
  show Runs p.tables e below _ (T2_.setTop (mkF m 7 #[.val (.ref a), .val (.ref sr), .val (.ref tr)] [(.ref lt), (.ref tr)]))
  obtain ⟨_, _, ⟨T3_, L3_, k3_, n3_⟩, -, X3_, ⟨Lc3_, hQ3_, l3_, y3_, z3_⟩, st3_⟩ := Jvm.LawKit.callS X2_ hx (y := (⟨"java/util/Objects", "requireNonNull", "(Ljava/lang/Object;Ljava/lang/String;)Ljava/lang/Object;"⟩ : MethodName)) hown (mvT hZ (hw _ (List.mem_of_getElem? (i := 49) rfl))) (mvT hZ (hw _ (List.mem_of_getElem? (i := 50) rfl))) (mvT hZ (hw _ (List.mem_of_getElem? (i := 51) rfl))) (mvT hZ (hw _ (List.mem_of_getElem? (i := 52) rfl))) (by decide) (backOf (W := 0) (rmReq l Z a0 hw [] tr lt h2_ n0 sz) hZ (hw _ (List.mem_of_getElem? (i := 52) rfl)) (hw _ (List.mem_of_getElem? (i := 51) rfl)) (by decide) (by decide)) (g := (mkF m 7 #[.val (.ref a), .val (.ref sr), .val (.ref tr)] [(.ref lt), (.ref tr)])) rfl (by rw [hml]; rfl) (argsL := [(.ref tr), (.ref lt)]) (rest := []) (lenOf pd__28Ljava_2flang_2fObject_3bLjava_2flang_2fString_3b_29Ljava_2flang_2fObject_3b rfl) rfl (by show 2 * 0 + _ ≤ _; exact Nat.le_of_eq rfl) (hb hby d_prog_66_method_1_7) (fun _ _ => ⟨rfl, e2_, (by decide : 2 + 0 ≤ _), (by decide : 20 + 0 ≤ _)⟩)
  dsimp only [Pt.U, Pt.locs, Pt.cells, Pt.slots] at X3_ l3_ y3_ z3_ st3_ hQ3_
  subst l3_ y3_ z3_
  obtain ⟨rfl, N3_q, e3_⟩ := hQ3_
  have N3_ := Fr.app N1_ N3_q
  refine Runs.st (st3_) ?_
  replace X3_ := wider X3_ (c' := 2) (s' := 20) (by decide) (by decide)
  show Runs p.tables e below _ (T3_.setTop (mkF m 10 #[.val (.ref a), .val (.ref sr), .val (.ref tr)] [(.ref tr)]))
  refine Runs.st (fun t' k' => XS.pop X3_.here hx rfl (hb hby d_prog_66_method_1_10) rfl rfl k') ?_
  show Runs p.tables e below _ (T3_.setTop (mkF m 11 #[.val (.ref a), .val (.ref sr), .val (.ref tr)] []))
  refine Runs.st (fun t' k' => XS.aloadN X3_.here hx rfl (hb hby d_prog_66_method_1_11) rfl rfl k') ?_
  show Runs p.tables e below _ (T3_.setTop (mkF m 12 #[.val (.ref a), .val (.ref sr), .val (.ref tr)] [(.ref sr)]))
  obtain ⟨cq4_, kq4_, q4_a, q4_b, q4_c⟩ := isOf hZ e3_ E_s
  obtain ⟨_, _, ⟨T4_, L4_, k4_, n4_⟩, -, X4_, ⟨Lc4_, hQ4_, l4_, y4_, z4_⟩, st4_⟩ := X3_.virtualBack hx (y := (⟨"java/lang/String", "isEmpty", "()Z"⟩ : MethodName)) (z := (⟨"java/lang/String", "isEmpty", "()Z"⟩ : MethodName)) hown (mvT hZ (hw _ (List.mem_of_getElem? (i := 53) rfl))) (mvT hZ (hw _ (List.mem_of_getElem? (i := 54) rfl))) (notFace_of_selects (args := #[]) (mvT hZ (hw _ (List.mem_of_getElem? (i := 56) rfl)))) (mvT hZ (hw _ (List.mem_of_getElem? (i := 56) rfl))) (mvT hZ (hw _ (List.mem_of_getElem? (i := 55) rfl))) (by decide) (backOf (W := 0) (rmEmp l Z a0 hw [] sr b (1 : Int32) k vs h2_ n0 sz F_v V_b (by decide)) hZ (hw _ (List.mem_of_getElem? (i := 57) rfl)) (hw _ (List.mem_of_getElem? (i := 10) rfl)) (by decide) (by decide)) q4_a q4_c (g := (mkF m 12 #[.val (.ref a), .val (.ref sr), .val (.ref tr)] [(.ref sr)])) rfl (by rw [hml]; rfl) (Steps.refl _) (argsL := []) (rest := []) (lenOf pd__28_29Z rfl) rfl (by show 2 * 0 + _ ≤ _; exact Nat.le_of_eq rfl) (hb hby d_prog_66_method_1_12) (fun _ _ => ⟨rfl, e3_, (by decide : 2 + 0 ≤ _), (by decide : 20 + 0 ≤ _)⟩)
  dsimp only [Pt.U, Pt.locs, Pt.cells, Pt.slots] at X4_ l4_ y4_ z4_ st4_ hQ4_
  subst l4_ y4_ z4_
  obtain ⟨rfl, N4_q, e4_⟩ := hQ4_
  have N4_ := Fr.app N3_ N4_q
  refine Runs.tr st4_ ?_
  replace X4_ := wider X4_ (c' := 2) (s' := 20) (by decide) (by decide)
  show Runs p.tables e below _ (T4_.setTop (mkF m 15 #[.val (.ref a), .val (.ref sr), .val (.ref tr)] [(.int (0 : Int32))]))
  refine Runs.st (fun t' k' => XS.ifYes X4_.here hx rfl (pc0 := 15) (pc' := 28) rfl (hb hby d_prog_66_method_1_15) rfl ((if0 _ _).trans (teq rfl).1) (by decide) (by decide) k') ?_
  show Runs p.tables e below _ (T4_.setTop (mkF m 28 #[.val (.ref a), .val (.ref sr), .val (.ref tr)] []))
  refine Runs.st (fun t' k' => XS.aloadN X4_.here hx rfl (hb hby d_prog_66_method_1_28) rfl rfl k') ?_
  show Runs p.tables e below _ (T4_.setTop (mkF m 29 #[.val (.ref a), .val (.ref sr), .val (.ref tr)] [(.ref a)]))
  refine Runs.st (fun t' k' => XS.aloadN X4_.here hx rfl (hb hby d_prog_66_method_1_29) rfl rfl k') ?_
  show Runs p.tables e below _ (T4_.setTop (mkF m 30 #[.val (.ref a), .val (.ref sr), .val (.ref tr)] [(.ref sr), (.ref a)]))
  obtain ⟨T5_, h5_, X5_, e5_, W5_, st5_⟩ := putF X4_ hx hZ hown (host := "") (Or.inl (hw _ (List.mem_of_getElem? (i := 58) rfl))) Via.refl e4_ F_n E_a (Or.inr ⟨(hw _ (List.mem_of_getElem? (i := 59) rfl)), rfl, hnm⟩) (hw _ (List.mem_of_getElem? (i := 6) rfl)) (ty := (.object "java/lang/String")) (by decide) rfl rfl (g := (mkF m 30 #[.val (.ref a), .val (.ref sr), .val (.ref tr)] [(.ref sr), (.ref a)])) rfl rfl (hb hby d_prog_66_method_1_30)
  refine Runs.st (st5_) ?_
  replace F_n := F_n.same W5_
  replace E_a := Jvm.RoadKit.Exa.wr W5_ E_a
  replace F_t := F_t.other W5_ (Or.inr (slot_ne (Or.inr (hw _ (List.mem_of_getElem? (i := 61) rfl))) (Or.inr (hw _ (List.mem_of_getElem? (i := 59) rfl))) (by decide) (t := (.object "com/example/final_marking/finalmarking/net/Variable$Type")) (t' := (.object "java/lang/String")) (by decide) (by decide)))
  replace E_s := Jvm.RoadKit.Exa.wr W5_ E_s
  replace F_v := F_v.other W5_ (Or.inl ne_sr_a)
  replace V_b := V_b.other W5_ ne_b_a
  replace sz := Nat.le_trans sz (Keep.of_wr W5_).1
  replace hk := Nat.le_trans hk (Keep.of_wr W5_).1
  have N5_ := Fr.snoc X5_ N4_ g_a
  replace K := K.wr W5_ (Or.inl (List.mem_of_getElem? (i := 0) rfl))
  show Runs p.tables e below _ (T5_.setTop (mkF m 33 #[.val (.ref a), .val (.ref sr), .val (.ref tr)] []))
  refine Runs.st (fun t' k' => XS.aloadN X5_.here hx rfl (hb hby d_prog_66_method_1_33) rfl rfl k') ?_
  show Runs p.tables e below _ (T5_.setTop (mkF m 34 #[.val (.ref a), .val (.ref sr), .val (.ref tr)] [(.ref a)]))
  refine Runs.st (fun t' k' => XS.aloadN X5_.here hx rfl (hb hby d_prog_66_method_1_34) rfl rfl k') ?_
  show Runs p.tables e below _ (T5_.setTop (mkF m 35 #[.val (.ref a), .val (.ref sr), .val (.ref tr)] [(.ref tr), (.ref a)]))
  obtain ⟨T6_, h6_, X6_, e6_, W6_, st6_⟩ := putF X5_ hx hZ hown (host := "") (Or.inl (hw _ (List.mem_of_getElem? (i := 60) rfl))) Via.refl e5_ F_t E_a (Or.inr ⟨(hw _ (List.mem_of_getElem? (i := 61) rfl)), rfl, hnm⟩) (hw _ (List.mem_of_getElem? (i := 6) rfl)) (ty := (.object "com/example/final_marking/finalmarking/net/Variable$Type")) (by decide) rfl rfl (g := (mkF m 35 #[.val (.ref a), .val (.ref sr), .val (.ref tr)] [(.ref tr), (.ref a)])) rfl rfl (hb hby d_prog_66_method_1_35)
  refine Runs.st (st6_) ?_
  replace F_t := F_t.same W6_
  replace E_a := Jvm.RoadKit.Exa.wr W6_ E_a
  replace E_s := Jvm.RoadKit.Exa.wr W6_ E_s
  replace F_v := F_v.other W6_ (Or.inl ne_sr_a)
  replace V_b := V_b.other W6_ ne_b_a
  replace F_n := F_n.other W6_ (Or.inr (slot_ne (Or.inr (hw _ (List.mem_of_getElem? (i := 59) rfl))) (Or.inr (hw _ (List.mem_of_getElem? (i := 61) rfl))) (by decide) (t := (.object "java/lang/String")) (t' := (.object "com/example/final_marking/finalmarking/net/Variable$Type")) (by decide) (by decide)))
  replace sz := Nat.le_trans sz (Keep.of_wr W6_).1
  replace hk := Nat.le_trans hk (Keep.of_wr W6_).1
  have N6_ := Fr.snoc X6_ N5_ g_a
  replace K := K.wr W6_ (Or.inl (List.mem_of_getElem? (i := 0) rfl))
  show Runs p.tables e below _ (T6_.setTop (mkF m 38 #[.val (.ref a), .val (.ref sr), .val (.ref tr)] []))
  refine Runs.retW (vm₁ := T2_.vm) X6_ hS (by rw [e6_]; exact hk) hlk (v := none) (fun _ => rfl) (by decide) (by decide) ?_ (fun fs hr => X6_.returnOut hx hret (hb hby d_prog_66_method_1_38) hr)
  try rw [e6_]
  exact ⟨rfl, N6_, K, E_a, F_n, F_t⟩
def Q_rmVal (Z : State) (a : Addr) (vr : Addr) (wr : Int32)  (h0 : Heap) (n0 : Nat) : Option Value → Heap → List Loc → Prop := (fun v h L => v = none ∧ Fr n0 L ∧ Keep h0 h [a] ∧ Exa Z h a "com/example/final_marking/finalmarking/net/Guard$Value" ∧ Fld Z h a "com/example/final_marking/finalmarking/net/Guard$Value" "variable" "Lcom/example/final_marking/finalmarking/net/Variable;" (.ref vr) ∧ Fld Z h a "com/example/final_marking/finalmarking/net/Guard$Value" "written" "Z" (.int (nar .boolean wr)))
theorem pn_com_example_final_marking_finalmarking_net_Guard_Value : plainName "com/example/final_marking/finalmarking/net/Guard$Value" = true := by first | (simp [plainName, overriddenIn]; done) | decide +kernel
theorem ef_prog_40_method_1_RRI (m : MethodId) (x0 : Addr) (x1 : Addr) (x2 : Int32)  : entryFrame m #[(.ref x0), (.ref x1), (.int x2)] 3 = mkF m 0 #[.val (.ref x0), .val (.ref x1), .val (.int x2)] [] := by first | (simp [entryFrame, mkF, argsToLocals, Value.category]; done) | rfl
theorem d_prog_40_method_1_0 : decode prog_40_method_1_code 0 = .ok (.aload_n 0, 1) := by decide +kernel
theorem d_prog_40_method_1_1 : decode prog_40_method_1_code 1 = .ok (.invokespecial 1, 3) := by decide +kernel
theorem d_prog_40_method_1_4 : decode prog_40_method_1_code 4 = .ok (.aload_n 0, 1) := by decide +kernel
theorem d_prog_40_method_1_5 : decode prog_40_method_1_code 5 = .ok (.aload_n 1, 1) := by decide +kernel
theorem d_prog_40_method_1_6 : decode prog_40_method_1_code 6 = .ok (.putfield 7, 3) := by decide +kernel
theorem d_prog_40_method_1_9 : decode prog_40_method_1_code 9 = .ok (.aload_n 0, 1) := by decide +kernel
theorem d_prog_40_method_1_10 : decode prog_40_method_1_code 10 = .ok (.iload_n 2, 1) := by decide +kernel
theorem d_prog_40_method_1_11 : decode prog_40_method_1_code 11 = .ok (.putfield 13, 3) := by decide +kernel
theorem d_prog_40_method_1_14 : decode prog_40_method_1_code 14 = .ok (.return_, 1) := by decide +kernel
set_option maxRecDepth 65536 in
set_option maxHeartbeats 40000000 in
theorem rmVal (l : Launch) (Z : State) (a0 : Array Value) (hw : ∀ d ∈ tables_1, d.before a0 Z = true) (ws : List Jvm.Cond) (a : Addr) (vr : Addr) (wr : Int32)  (h0 : Heap) (n0 : Nat) (Z0 : n0 ≤ h0.size) (E_a : Exa Z h0 a "com/example/final_marking/finalmarking/net/Guard$Value") (F_v : Fld Z h0 a "com/example/final_marking/finalmarking/net/Guard$Value" "variable" "Lcom/example/final_marking/finalmarking/net/Variable;" .null) (F_w : Fld Z h0 a "com/example/final_marking/finalmarking/net/Guard$Value" "written" "Z" (.int (0 : Int32))) (g_a : n0 ≤ a) :
    MetFree l (⟨"com/example/final_marking/finalmarking/net/Guard$Value", "<init>", "(Lcom/example/final_marking/finalmarking/net/Variable;Z)V"⟩ : MethodName) (head1 (Jvm.Cond.code (⟨"com/example/final_marking/finalmarking/net/Guard$Value", "<init>", "(Lcom/example/final_marking/finalmarking/net/Variable;Z)V"⟩ : MethodName) prog_40_method_1_code 3 none :: ws) ({ frames := 2, cells := 0, slots := 0, locals := 24 } : Room)) (fun ar_ U => ar_ = #[(.ref a), (.ref vr), (.int wr)] ∧ Z.Warmed39 U.vm ∧ U.heap = h0) (fun _ _ _ _ _ => True) (fun _ U o U' => Phi U (Q_rmVal Z a vr wr h0 n0) ({ frames := 2, cells := 0, slots := 0, locals := 24 } : Room).cells ({ frames := 2, cells := 0, slots := 0, locals := 24 } : Room).slots o U') := by
  refine MetFree.of_bodySF (plainFor_of_name pn_com_example_final_marking_finalmarking_net_Guard_Value) hisR ?_
  intro p e s m args below meth c s₁ Bd hml0 hP hK
  obtain ⟨rfl, hZ, hh⟩ := hP
  have hx := Bd.exec
  have hby := Bd.bytes
  have hlk := Bd.notSynchronized
  have hml : c.maxLocals = 3 := hml0
  have hown : s.vm.findClass "com/example/final_marking/finalmarking/net/Guard$Value" = some m.cls := findClass_of_methodNamed Bd.named
  have hown0 := hown
  have hnm := (name_of_methodNamed Bd.named Bd.method).1
  have hret := Bd.returns
  have X0 : Stand p l e ({ frames := 2, cells := 0, slots := 0, locals := 24 } : Room) s m #[(.ref a), (.ref vr), (.int wr)] below meth c s₁ [] 0 0 := Stand.of_body Bd
  have e0 : s₁.heap = h0 := by rw [← hh, Bd.state]; rfl
  have N0 := Fr.nil n0
  have sz := Z0
  have K := Keep.refl h0 [a]
  show Runs p.tables e below (Phi s (Q_rmVal Z a vr wr h0 n0) ({ frames := 2, cells := 0, slots := 0, locals := 24 } : Room).cells ({ frames := 2, cells := 0, slots := 0, locals := 24 } : Room).slots) _
  refine Runs.st (fun t' k' => castTop (ef_prog_40_method_1_RRI m a vr wr ) k') ?_
  show Runs p.tables e below _ (s₁.setTop (mkF m 0 #[.val (.ref a), .val (.ref vr), .val (.int wr)] []))
  refine Runs.st (fun t' k' => XS.aloadN X0.here hx rfl (hb hby d_prog_40_method_1_0) rfl rfl k') ?_
  show Runs p.tables e below _ (s₁.setTop (mkF m 1 #[.val (.ref a), .val (.ref vr), .val (.int wr)] [(.ref a)]))
  obtain ⟨_, _, ⟨T1_, L1_, k1_, n1_⟩, -, X1_, ⟨Lc1_, hQ1_, l1_, y1_, z1_⟩, st1_⟩ := X0.specialBack hx (y := (⟨"java/lang/Record", "<init>", "()V"⟩ : MethodName)) rfl hown (mvT hZ (hw _ (List.mem_of_getElem? (i := 68) rfl))) (mvT hZ (hw _ (List.mem_of_getElem? (i := 41) rfl))) (mvT hZ (hw _ (List.mem_of_getElem? (i := 44) rfl))) (by decide) (backOf (W := 0) (rmRec l Z a0 hw [] a h0 n0 sz) hZ (hw _ (List.mem_of_getElem? (i := 44) rfl)) (hw _ (List.mem_of_getElem? (i := 43) rfl)) (by decide) (by decide)) (g := (mkF m 1 #[.val (.ref a), .val (.ref vr), .val (.int wr)] [(.ref a)])) rfl (by rw [hml]; rfl) (Steps.refl _) (a := a) (argsL := []) (rest := []) (lenOf pd__28_29V rfl) rfl (by show 2 * 0 + _ ≤ _; exact Nat.le_of_eq rfl) (hb hby d_prog_40_method_1_1) (fun _ _ => ⟨rfl, e0, (by decide : 0 + 0 ≤ _), (by decide : 0 + 0 ≤ _)⟩)
  dsimp only [Pt.U, Pt.locs, Pt.cells, Pt.slots] at X1_ l1_ y1_ z1_ st1_ hQ1_
  subst l1_ y1_ z1_
  obtain ⟨rfl, N1_q, e1_⟩ := hQ1_
  have N1_ := Fr.app N0 N1_q
  refine Runs.tr st1_ ?_
  replace X1_ := wider X1_ (c' := 0) (s' := 0) (by decide) (by decide)
  show Runs p.tables e below _ (T1_.setTop (mkF m 4 #[.val (.ref a), .val (.ref vr), .val (.int wr)] []))
  refine Runs.st (fun t' k' => XS.aloadN X1_.here hx rfl (hb hby d_prog_40_method_1_4) rfl rfl k') ?_
  show Runs p.tables e below _ (T1_.setTop (mkF m 5 #[.val (.ref a), .val (.ref vr), .val (.int wr)] [(.ref a)]))
  refine Runs.st (fun t' k' => XS.aloadN X1_.here hx rfl (hb hby d_prog_40_method_1_5) rfl rfl k') ?_
  show Runs p.tables e below _ (T1_.setTop (mkF m 6 #[.val (.ref a), .val (.ref vr), .val (.int wr)] [(.ref vr), (.ref a)]))
  obtain ⟨T2_, h2_, X2_, e2_, W2_, st2_⟩ := putF X1_ hx hZ hown (host := "") (Or.inl (hw _ (List.mem_of_getElem? (i := 69) rfl))) Via.refl e1_ F_v E_a (Or.inr ⟨(hw _ (List.mem_of_getElem? (i := 70) rfl)), rfl, hnm⟩) (hw _ (List.mem_of_getElem? (i := 63) rfl)) (ty := (.object "com/example/final_marking/finalmarking/net/Variable")) (by decide) rfl rfl (g := (mkF m 6 #[.val (.ref a), .val (.ref vr), .val (.int wr)] [(.ref vr), (.ref a)])) rfl rfl (hb hby d_prog_40_method_1_6)
  refine Runs.st (st2_) ?_
  replace F_v := F_v.same W2_
  replace E_a := Jvm.RoadKit.Exa.wr W2_ E_a
  replace F_w := F_w.other W2_ (Or.inr (slot_ne (Or.inr (hw _ (List.mem_of_getElem? (i := 72) rfl))) (Or.inr (hw _ (List.mem_of_getElem? (i := 70) rfl))) (by decide) (t := .boolean) (t' := (.object "com/example/final_marking/finalmarking/net/Variable")) (by decide) (by decide)))
  replace sz := Nat.le_trans sz (Keep.of_wr W2_).1
  have N2_ := Fr.snoc X2_ N1_ g_a
  replace K := K.wr W2_ (Or.inl (List.mem_of_getElem? (i := 0) rfl))
  show Runs p.tables e below _ (T2_.setTop (mkF m 9 #[.val (.ref a), .val (.ref vr), .val (.int wr)] []))
  refine Runs.st (fun t' k' => XS.aloadN X2_.here hx rfl (hb hby d_prog_40_method_1_9) rfl rfl k') ?_
  show Runs p.tables e below _ (T2_.setTop (mkF m 10 #[.val (.ref a), .val (.ref vr), .val (.int wr)] [(.ref a)]))
  refine Runs.st (fun t' k' => XS.iloadN X2_.here hx rfl (hb hby d_prog_40_method_1_10) rfl k') ?_
  show Runs p.tables e below _ (T2_.setTop (mkF m 11 #[.val (.ref a), .val (.ref vr), .val (.int wr)] [(.int wr), (.ref a)]))
  obtain ⟨T3_, h3_, X3_, e3_, W3_, st3_⟩ := putFN X2_ hx hZ hown (hw _ (List.mem_of_getElem? (i := 71) rfl)) Via.refl e2_ F_w E_a (Or.inr ⟨(hw _ (List.mem_of_getElem? (i := 72) rfl)), rfl, hnm⟩) (hw _ (List.mem_of_getElem? (i := 63) rfl)) (ty := .boolean) (v' := .int (nar .boolean wr)) (by decide) rfl (fits_nar_bool _) (g := (mkF m 11 #[.val (.ref a), .val (.ref vr), .val (.int wr)] [(.int wr), (.ref a)])) rfl rfl (hb hby d_prog_40_method_1_11)
  refine Runs.st (st3_) ?_
  replace F_w := F_w.same W3_
  replace E_a := Jvm.RoadKit.Exa.wr W3_ E_a
  replace F_v := F_v.other W3_ (Or.inr (slot_ne (Or.inr (hw _ (List.mem_of_getElem? (i := 70) rfl))) (Or.inr (hw _ (List.mem_of_getElem? (i := 72) rfl))) (by decide) (t := (.object "com/example/final_marking/finalmarking/net/Variable")) (t' := .boolean) (by decide) (by decide)))
  replace sz := Nat.le_trans sz (Keep.of_wr W3_).1
  have N3_ := Fr.snoc X3_ N2_ g_a
  replace K := K.wr W3_ (Or.inl (List.mem_of_getElem? (i := 0) rfl))
  show Runs p.tables e below _ (T3_.setTop (mkF m 14 #[.val (.ref a), .val (.ref vr), .val (.int wr)] []))
  refine Runs.ret X3_ hlk (v := none) (fun _ => rfl) (by decide) (by decide) ?_ (fun fs hr => X3_.returnOut hx hret (hb hby d_prog_40_method_1_14) hr)
  try rw [e3_]
  exact ⟨rfl, N3_, K, E_a, F_v, F_w⟩
def Q_rmTy (Z : State) (a : Addr) (r : Addr) (h0 : Heap) (n0 : Nat) : Option Value → Heap → List Loc → Prop := (fun v h L => v = some (.ref r) ∧ Fr n0 L ∧ h = h0)
theorem ef_prog_66_method_6_R (m : MethodId) (x0 : Addr)  : entryFrame m #[(.ref x0)] 1 = mkF m 0 #[.val (.ref x0)] [] := by first | (simp [entryFrame, mkF, argsToLocals, Value.category]; done) | rfl
theorem d_prog_66_method_6_0 : decode prog_66_method_6_code 0 = .ok (.aload_n 0, 1) := by decide +kernel
theorem d_prog_66_method_6_1 : decode prog_66_method_6_code 1 = .ok (.getfield 34, 3) := by decide +kernel
theorem d_prog_66_method_6_4 : decode prog_66_method_6_code 4 = .ok (.areturn, 1) := by decide +kernel
set_option maxRecDepth 65536 in
set_option maxHeartbeats 40000000 in
theorem rmTy (l : Launch) (Z : State) (a0 : Array Value) (hw : ∀ d ∈ tables_1, d.before a0 Z = true) (ws : List Jvm.Cond) (a : Addr) (r : Addr) (h0 : Heap) (n0 : Nat) (Z0 : n0 ≤ h0.size) (F1 : Fld Z h0 a "com/example/final_marking/finalmarking/net/Variable" "type" "Lcom/example/final_marking/finalmarking/net/Variable$Type;" (.ref r)) :
    MetFree l (⟨"com/example/final_marking/finalmarking/net/Variable", "type", "()Lcom/example/final_marking/finalmarking/net/Variable$Type;"⟩ : MethodName) (head1 (Jvm.Cond.code (⟨"com/example/final_marking/finalmarking/net/Variable", "type", "()Lcom/example/final_marking/finalmarking/net/Variable$Type;"⟩ : MethodName) prog_66_method_6_code 1 (some (.object "com/example/final_marking/finalmarking/net/Variable$Type")) :: ws) ({ frames := 0, cells := 0, slots := 0, locals := 0 } : Room)) (fun ar_ U => ar_ = #[(.ref a)] ∧ Z.Warmed39 U.vm ∧ U.heap = h0) (fun _ _ _ _ _ => True) (fun _ U o U' => Phi U (Q_rmTy Z a r h0 n0) ({ frames := 0, cells := 0, slots := 0, locals := 0 } : Room).cells ({ frames := 0, cells := 0, slots := 0, locals := 0 } : Room).slots o U') := by
  refine MetFree.of_bodySF (plainFor_of_name pn_com_example_final_marking_finalmarking_net_Variable) hisR ?_
  intro p e s m args below meth c s₁ Bd hml0 hP hK
  obtain ⟨rfl, hZ, hh⟩ := hP
  have hx := Bd.exec
  have hby := Bd.bytes
  have hlk := Bd.notSynchronized
  have hml : c.maxLocals = 1 := hml0
  have hown : s.vm.findClass "com/example/final_marking/finalmarking/net/Variable" = some m.cls := findClass_of_methodNamed Bd.named
  have hown0 := hown
  have hnm := (name_of_methodNamed Bd.named Bd.method).1
  have hret := Bd.returns
  have X0 : Stand p l e ({ frames := 0, cells := 0, slots := 0, locals := 0 } : Room) s m #[(.ref a)] below meth c s₁ [] 0 0 := Stand.of_body Bd
  have e0 : s₁.heap = h0 := by rw [← hh, Bd.state]; rfl
  have N0 := Fr.nil n0
  have sz := Z0
  have K := Keep.refl h0 []
  show Runs p.tables e below (Phi s (Q_rmTy Z a r h0 n0) ({ frames := 0, cells := 0, slots := 0, locals := 0 } : Room).cells ({ frames := 0, cells := 0, slots := 0, locals := 0 } : Room).slots) _
  refine Runs.st (fun t' k' => castTop (ef_prog_66_method_6_R m a ) k') ?_
  show Runs p.tables e below _ (s₁.setTop (mkF m 0 #[.val (.ref a)] []))
  refine Runs.st (fun t' k' => XS.aloadN X0.here hx rfl (hb hby d_prog_66_method_6_0) rfl rfl k') ?_
  show Runs p.tables e below _ (s₁.setTop (mkF m 1 #[.val (.ref a)] [(.ref a)]))
  obtain ⟨T1_, X1_, e1_, st1_⟩ := getF X0 hx hZ hown (host := "") (Or.inl (hw _ (List.mem_of_getElem? (i := 60) rfl))) Via.refl e0 F1 (g := (mkF m 1 #[.val (.ref a)] [(.ref a)])) rfl rfl (hb hby d_prog_66_method_6_1)
  refine Runs.st (st1_) ?_
  show Runs p.tables e below _ (T1_.setTop (mkF m 4 #[.val (.ref a)] [(.ref r)]))
  refine Runs.ret X1_ hlk (v := (some (.ref r))) (fun h => by rw [hret] at h; cases h) (by decide) (by decide) ?_ (fun fs hr => retOut X1_ hx hret rfl (Or.inr (Or.inr (Or.inr (Or.inr ⟨rfl, rfl, rfl⟩)))) (hb hby d_prog_66_method_6_4) hr)
  try rw [e1_]
  exact ⟨rfl, N0, rfl⟩
def Q_rmGV (Z : State) (a : Addr) (r : Addr) (h0 : Heap) (n0 : Nat) : Option Value → Heap → List Loc → Prop := (fun v h L => v = some (.ref r) ∧ Fr n0 L ∧ h = h0)
theorem ef_prog_40_method_6_R (m : MethodId) (x0 : Addr)  : entryFrame m #[(.ref x0)] 1 = mkF m 0 #[.val (.ref x0)] [] := by first | (simp [entryFrame, mkF, argsToLocals, Value.category]; done) | rfl
theorem d_prog_40_method_6_0 : decode prog_40_method_6_code 0 = .ok (.aload_n 0, 1) := by decide +kernel
theorem d_prog_40_method_6_1 : decode prog_40_method_6_code 1 = .ok (.getfield 7, 3) := by decide +kernel
theorem d_prog_40_method_6_4 : decode prog_40_method_6_code 4 = .ok (.areturn, 1) := by decide +kernel
set_option maxRecDepth 65536 in
set_option maxHeartbeats 40000000 in
theorem rmGV (l : Launch) (Z : State) (a0 : Array Value) (hw : ∀ d ∈ tables_1, d.before a0 Z = true) (ws : List Jvm.Cond) (a : Addr) (r : Addr) (h0 : Heap) (n0 : Nat) (Z0 : n0 ≤ h0.size) (F1 : Fld Z h0 a "com/example/final_marking/finalmarking/net/Guard$Value" "variable" "Lcom/example/final_marking/finalmarking/net/Variable;" (.ref r)) :
    MetFree l (⟨"com/example/final_marking/finalmarking/net/Guard$Value", "variable", "()Lcom/example/final_marking/finalmarking/net/Variable;"⟩ : MethodName) (head1 (Jvm.Cond.code (⟨"com/example/final_marking/finalmarking/net/Guard$Value", "variable", "()Lcom/example/final_marking/finalmarking/net/Variable;"⟩ : MethodName) prog_40_method_6_code 1 (some (.object "com/example/final_marking/finalmarking/net/Variable")) :: ws) ({ frames := 0, cells := 0, slots := 0, locals := 0 } : Room)) (fun ar_ U => ar_ = #[(.ref a)] ∧ Z.Warmed39 U.vm ∧ U.heap = h0) (fun _ _ _ _ _ => True) (fun _ U o U' => Phi U (Q_rmGV Z a r h0 n0) ({ frames := 0, cells := 0, slots := 0, locals := 0 } : Room).cells ({ frames := 0, cells := 0, slots := 0, locals := 0 } : Room).slots o U') := by
  refine MetFree.of_bodySF (plainFor_of_name pn_com_example_final_marking_finalmarking_net_Guard_Value) hisR ?_
  intro p e s m args below meth c s₁ Bd hml0 hP hK
  obtain ⟨rfl, hZ, hh⟩ := hP
  have hx := Bd.exec
  have hby := Bd.bytes
  have hlk := Bd.notSynchronized
  have hml : c.maxLocals = 1 := hml0
  have hown : s.vm.findClass "com/example/final_marking/finalmarking/net/Guard$Value" = some m.cls := findClass_of_methodNamed Bd.named
  have hown0 := hown
  have hnm := (name_of_methodNamed Bd.named Bd.method).1
  have hret := Bd.returns
  have X0 : Stand p l e ({ frames := 0, cells := 0, slots := 0, locals := 0 } : Room) s m #[(.ref a)] below meth c s₁ [] 0 0 := Stand.of_body Bd
  have e0 : s₁.heap = h0 := by rw [← hh, Bd.state]; rfl
  have N0 := Fr.nil n0
  have sz := Z0
  have K := Keep.refl h0 []
  show Runs p.tables e below (Phi s (Q_rmGV Z a r h0 n0) ({ frames := 0, cells := 0, slots := 0, locals := 0 } : Room).cells ({ frames := 0, cells := 0, slots := 0, locals := 0 } : Room).slots) _
  refine Runs.st (fun t' k' => castTop (ef_prog_40_method_6_R m a ) k') ?_
  show Runs p.tables e below _ (s₁.setTop (mkF m 0 #[.val (.ref a)] []))
  refine Runs.st (fun t' k' => XS.aloadN X0.here hx rfl (hb hby d_prog_40_method_6_0) rfl rfl k') ?_
  show Runs p.tables e below _ (s₁.setTop (mkF m 1 #[.val (.ref a)] [(.ref a)]))
  obtain ⟨T1_, X1_, e1_, st1_⟩ := getF X0 hx hZ hown (host := "") (Or.inl (hw _ (List.mem_of_getElem? (i := 69) rfl))) Via.refl e0 F1 (g := (mkF m 1 #[.val (.ref a)] [(.ref a)])) rfl rfl (hb hby d_prog_40_method_6_1)
  refine Runs.st (st1_) ?_
  show Runs p.tables e below _ (T1_.setTop (mkF m 4 #[.val (.ref a)] [(.ref r)]))
  refine Runs.ret X1_ hlk (v := (some (.ref r))) (fun h => by rw [hret] at h; cases h) (by decide) (by decide) ?_ (fun fs hr => retOut X1_ hx hret rfl (Or.inr (Or.inr (Or.inr (Or.inr ⟨rfl, rfl, rfl⟩)))) (hb hby d_prog_40_method_6_4) hr)
  try rw [e1_]
  exact ⟨rfl, N0, rfl⟩
def Q_rmGW (Z : State) (a : Addr) (r : Int32) (h0 : Heap) (n0 : Nat) : Option Value → Heap → List Loc → Prop := (fun v h L => v = some (.int (nar .boolean r)) ∧ Fr n0 L ∧ h = h0)
theorem ef_prog_40_method_7_R (m : MethodId) (x0 : Addr)  : entryFrame m #[(.ref x0)] 1 = mkF m 0 #[.val (.ref x0)] [] := by first | (simp [entryFrame, mkF, argsToLocals, Value.category]; done) | rfl
theorem d_prog_40_method_7_0 : decode prog_40_method_7_code 0 = .ok (.aload_n 0, 1) := by decide +kernel
theorem d_prog_40_method_7_1 : decode prog_40_method_7_code 1 = .ok (.getfield 13, 3) := by decide +kernel
theorem d_prog_40_method_7_4 : decode prog_40_method_7_code 4 = .ok (.ireturn, 1) := by decide +kernel
set_option maxRecDepth 65536 in
set_option maxHeartbeats 40000000 in
theorem rmGW (l : Launch) (Z : State) (a0 : Array Value) (hw : ∀ d ∈ tables_1, d.before a0 Z = true) (ws : List Jvm.Cond) (a : Addr) (r : Int32) (h0 : Heap) (n0 : Nat) (Z0 : n0 ≤ h0.size) (F1 : Fld Z h0 a "com/example/final_marking/finalmarking/net/Guard$Value" "written" "Z" (.int r)) :
    MetFree l (⟨"com/example/final_marking/finalmarking/net/Guard$Value", "written", "()Z"⟩ : MethodName) (head1 (Jvm.Cond.code (⟨"com/example/final_marking/finalmarking/net/Guard$Value", "written", "()Z"⟩ : MethodName) prog_40_method_7_code 1 (some .boolean) :: ws) ({ frames := 0, cells := 0, slots := 0, locals := 0 } : Room)) (fun ar_ U => ar_ = #[(.ref a)] ∧ Z.Warmed39 U.vm ∧ U.heap = h0) (fun _ _ _ _ _ => True) (fun _ U o U' => Phi U (Q_rmGW Z a r h0 n0) ({ frames := 0, cells := 0, slots := 0, locals := 0 } : Room).cells ({ frames := 0, cells := 0, slots := 0, locals := 0 } : Room).slots o U') := by
  refine MetFree.of_bodySF (plainFor_of_name pn_com_example_final_marking_finalmarking_net_Guard_Value) hisR ?_
  intro p e s m args below meth c s₁ Bd hml0 hP hK
  obtain ⟨rfl, hZ, hh⟩ := hP
  have hx := Bd.exec
  have hby := Bd.bytes
  have hlk := Bd.notSynchronized
  have hml : c.maxLocals = 1 := hml0
  have hown : s.vm.findClass "com/example/final_marking/finalmarking/net/Guard$Value" = some m.cls := findClass_of_methodNamed Bd.named
  have hown0 := hown
  have hnm := (name_of_methodNamed Bd.named Bd.method).1
  have hret := Bd.returns
  have X0 : Stand p l e ({ frames := 0, cells := 0, slots := 0, locals := 0 } : Room) s m #[(.ref a)] below meth c s₁ [] 0 0 := Stand.of_body Bd
  have e0 : s₁.heap = h0 := by rw [← hh, Bd.state]; rfl
  have N0 := Fr.nil n0
  have sz := Z0
  have K := Keep.refl h0 []
  show Runs p.tables e below (Phi s (Q_rmGW Z a r h0 n0) ({ frames := 0, cells := 0, slots := 0, locals := 0 } : Room).cells ({ frames := 0, cells := 0, slots := 0, locals := 0 } : Room).slots) _
  refine Runs.st (fun t' k' => castTop (ef_prog_40_method_7_R m a ) k') ?_
  show Runs p.tables e below _ (s₁.setTop (mkF m 0 #[.val (.ref a)] []))
  refine Runs.st (fun t' k' => XS.aloadN X0.here hx rfl (hb hby d_prog_40_method_7_0) rfl rfl k') ?_
  show Runs p.tables e below _ (s₁.setTop (mkF m 1 #[.val (.ref a)] [(.ref a)]))
  obtain ⟨T1_, X1_, e1_, st1_⟩ := getF X0 hx hZ hown (host := "") (Or.inl (hw _ (List.mem_of_getElem? (i := 71) rfl))) Via.refl e0 F1 (g := (mkF m 1 #[.val (.ref a)] [(.ref a)])) rfl rfl (hb hby d_prog_40_method_7_1)
  refine Runs.st (st1_) ?_
  show Runs p.tables e below _ (T1_.setTop (mkF m 4 #[.val (.ref a)] [(.int r)]))
  refine Runs.ret X1_ hlk (v := (some (.int (nar .boolean r)))) (fun h => by rw [hret] at h; cases h) (by decide) (by decide) ?_ (fun fs hr => retN X1_ hx (t := .boolean) hret (by simp) (hb hby d_prog_40_method_7_4) hr)
  try rw [e1_]
  exact ⟨rfl, N0, rfl⟩
def Q_rmIsB (Z : State) (a : Addr) (vr tr t2 : Addr) (r : Int32) (h0 : Heap) (n0 : Nat) : Option Value → Heap → List Loc → Prop := (fun v h L => v = some (.int r) ∧ Fr n0 L ∧ h = h0)
theorem ef_prog_40_method_2_R (m : MethodId) (x0 : Addr)  : entryFrame m #[(.ref x0)] 1 = mkF m 0 #[.val (.ref x0)] [] := by first | (simp [entryFrame, mkF, argsToLocals, Value.category]; done) | rfl
theorem d_prog_40_method_2_0 : decode prog_40_method_2_code 0 = .ok (.aload_n 0, 1) := by decide +kernel
theorem d_prog_40_method_2_1 : decode prog_40_method_2_code 1 = .ok (.getfield 7, 3) := by decide +kernel
theorem pd__28_29Lcom_2fexample_2ffinal_marking_2ffinalmarking_2fnet_2fVariable_24Type_3b : parseMethodDescriptor "()Lcom/example/final_marking/finalmarking/net/Variable$Type;" = some ⟨[], some (.object "com/example/final_marking/finalmarking/net/Variable$Type")⟩ := by decide +kernel
theorem d_prog_40_method_2_4 : decode prog_40_method_2_code 4 = .ok (.invokevirtual 17, 3) := by decide +kernel
theorem d_prog_40_method_2_7 : decode prog_40_method_2_code 7 = .ok (.getstatic 23, 3) := by decide +kernel
theorem d_prog_40_method_2_10 : decode prog_40_method_2_code 10 = .ok (.if_acmp .ne 7, 3) := by decide +kernel
theorem d_prog_40_method_2_13 : decode prog_40_method_2_code 13 = .ok (.iconst 1, 1) := by decide +kernel
theorem d_prog_40_method_2_14 : decode prog_40_method_2_code 14 = .ok (.goto 4, 3) := by decide +kernel
theorem d_prog_40_method_2_18 : decode prog_40_method_2_code 18 = .ok (.ireturn, 1) := by decide +kernel
theorem d_prog_40_method_2_17 : decode prog_40_method_2_code 17 = .ok (.iconst 0, 1) := by decide +kernel
set_option maxRecDepth 65536 in
set_option maxHeartbeats 40000000 in
theorem rmIsB (l : Launch) (Z : State) (a0 : Array Value) (hw : ∀ d ∈ tables_1, d.before a0 Z = true) (ws : List Jvm.Cond) (a : Addr) (vr tr t2 : Addr) (r : Int32) (h0 : Heap) (n0 : Nat) (Z0 : n0 ≤ h0.size) (F_v : Fld Z h0 a "com/example/final_marking/finalmarking/net/Guard$Value" "variable" "Lcom/example/final_marking/finalmarking/net/Variable;" (.ref vr)) (E_v : Exa Z h0 vr "com/example/final_marking/finalmarking/net/Variable") (F_t : Fld Z h0 vr "com/example/final_marking/finalmarking/net/Variable" "type" "Lcom/example/final_marking/finalmarking/net/Variable$Type;" (.ref tr)) (S2 : Sta Z h0 "com/example/final_marking/finalmarking/net/Variable$Type" "BOOLEAN" "Lcom/example/final_marking/finalmarking/net/Variable$Type;" (.ref t2)) (hr : (tr = t2 ∧ r = (1 : Int32)) ∨ (tr ≠ t2 ∧ r = (0 : Int32))) :
    MetFree l (⟨"com/example/final_marking/finalmarking/net/Guard$Value", "isBoolean", "()Z"⟩ : MethodName) (head1 (Jvm.Cond.code (⟨"com/example/final_marking/finalmarking/net/Guard$Value", "isBoolean", "()Z"⟩ : MethodName) prog_40_method_2_code 1 (some .boolean) :: ws) ({ frames := 1, cells := 0, slots := 0, locals := 12 } : Room)) (fun ar_ U => ar_ = #[(.ref a)] ∧ Z.Warmed39 U.vm ∧ U.heap = h0) (fun _ _ _ _ _ => True) (fun _ U o U' => Phi U (Q_rmIsB Z a vr tr t2 r h0 n0) ({ frames := 1, cells := 0, slots := 0, locals := 12 } : Room).cells ({ frames := 1, cells := 0, slots := 0, locals := 12 } : Room).slots o U') := by
  refine MetFree.of_bodySF (plainFor_of_name pn_com_example_final_marking_finalmarking_net_Guard_Value) hisR ?_
  intro p e s m args below meth c s₁ Bd hml0 hP hK
  obtain ⟨rfl, hZ, hh⟩ := hP
  have hx := Bd.exec
  have hby := Bd.bytes
  have hlk := Bd.notSynchronized
  have hml : c.maxLocals = 1 := hml0
  have hown : s.vm.findClass "com/example/final_marking/finalmarking/net/Guard$Value" = some m.cls := findClass_of_methodNamed Bd.named
  have hown0 := hown
  have hnm := (name_of_methodNamed Bd.named Bd.method).1
  have hret := Bd.returns
  have X0 : Stand p l e ({ frames := 1, cells := 0, slots := 0, locals := 12 } : Room) s m #[(.ref a)] below meth c s₁ [] 0 0 := Stand.of_body Bd
  have e0 : s₁.heap = h0 := by rw [← hh, Bd.state]; rfl
  have N0 := Fr.nil n0
  have sz := Z0
  have K := Keep.refl h0 []
  show Runs p.tables e below (Phi s (Q_rmIsB Z a vr tr t2 r h0 n0) ({ frames := 1, cells := 0, slots := 0, locals := 12 } : Room).cells ({ frames := 1, cells := 0, slots := 0, locals := 12 } : Room).slots) _
  refine Runs.st (fun t' k' => castTop (ef_prog_40_method_2_R m a ) k') ?_
  show Runs p.tables e below _ (s₁.setTop (mkF m 0 #[.val (.ref a)] []))
  refine Runs.st (fun t' k' => XS.aloadN X0.here hx rfl (hb hby d_prog_40_method_2_0) rfl rfl k') ?_
  show Runs p.tables e below _ (s₁.setTop (mkF m 1 #[.val (.ref a)] [(.ref a)]))
  obtain ⟨T1_, X1_, e1_, st1_⟩ := getF X0 hx hZ hown (host := "") (Or.inl (hw _ (List.mem_of_getElem? (i := 69) rfl))) Via.refl e0 F_v (g := (mkF m 1 #[.val (.ref a)] [(.ref a)])) rfl rfl (hb hby d_prog_40_method_2_1)
  refine Runs.st (st1_) ?_
  show Runs p.tables e below _ (T1_.setTop (mkF m 4 #[.val (.ref a)] [(.ref vr)]))
  obtain ⟨cq2_, kq2_, q2_a, q2_b, q2_c⟩ := isOf hZ e1_ E_v
  obtain ⟨_, _, ⟨T2_, L2_, k2_, n2_⟩, -, X2_, ⟨Lc2_, hQ2_, l2_, y2_, z2_⟩, st2_⟩ := X1_.virtualBack hx (y := (⟨"com/example/final_marking/finalmarking/net/Variable", "type", "()Lcom/example/final_marking/finalmarking/net/Variable$Type;"⟩ : MethodName)) (z := (⟨"com/example/final_marking/finalmarking/net/Variable", "type", "()Lcom/example/final_marking/finalmarking/net/Variable$Type;"⟩ : MethodName)) hown (mvT hZ (hw _ (List.mem_of_getElem? (i := 78) rfl))) (mvT hZ (hw _ (List.mem_of_getElem? (i := 79) rfl))) (notFace_of_selects (args := #[]) (mvT hZ (hw _ (List.mem_of_getElem? (i := 81) rfl)))) (mvT hZ (hw _ (List.mem_of_getElem? (i := 81) rfl))) (mvT hZ (hw _ (List.mem_of_getElem? (i := 80) rfl))) (by decide) (backOf (W := 0) (rmTy l Z a0 hw [] vr tr h0 n0 sz F_t) hZ (hw _ (List.mem_of_getElem? (i := 82) rfl)) (hw _ (List.mem_of_getElem? (i := 7) rfl)) (by decide) (by decide)) q2_a q2_c (g := (mkF m 4 #[.val (.ref a)] [(.ref vr)])) rfl (by rw [hml]; rfl) (Steps.refl _) (argsL := []) (rest := []) (lenOf pd__28_29Lcom_2fexample_2ffinal_marking_2ffinalmarking_2fnet_2fVariable_24Type_3b rfl) rfl (by show 2 * 0 + _ ≤ _; exact Nat.le_of_eq rfl) (hb hby d_prog_40_method_2_4) (fun _ _ => ⟨rfl, e1_, (by decide : 0 + 0 ≤ _), (by decide : 0 + 0 ≤ _)⟩)
  dsimp only [Pt.U, Pt.locs, Pt.cells, Pt.slots] at X2_ l2_ y2_ z2_ st2_ hQ2_
  subst l2_ y2_ z2_
  obtain ⟨rfl, N2_q, e2_⟩ := hQ2_
  have N2_ := Fr.app N0 N2_q
  refine Runs.tr st2_ ?_
  replace X2_ := wider X2_ (c' := 0) (s' := 0) (by decide) (by decide)
  show Runs p.tables e below _ (T2_.setTop (mkF m 7 #[.val (.ref a)] [(.ref tr)]))
  obtain ⟨T3_, X3_, e3_, st3_⟩ := getS2 X2_ hx hZ hown (host := "") (Or.inl (hw _ (List.mem_of_getElem? (i := 83) rfl))) Via.refl e2_ S2 (g := (mkF m 7 #[.val (.ref a)] [(.ref tr)])) rfl (hb hby d_prog_40_method_2_7)
  refine Runs.st (st3_) ?_
  show Runs p.tables e below _ (T3_.setTop (mkF m 10 #[.val (.ref a)] [(.ref t2), (.ref tr)]))
  rcases hr with ⟨q, rfl⟩ | ⟨q, rfl⟩
  · skip
    refine Runs.st (fun t' k' => Jvm.RoadKit.acmp (g := (mkF m 10 #[.val (.ref a)] [(.ref t2), (.ref tr)])) X3_ hx rfl rfl rfl (pc0 := 10) (pc' := 13) (same := true) rfl (hb hby d_prog_40_method_2_10) rfl (decide_eq_true (congrArg Value.ref q)) (by decide) (by decide) k') ?_
    show Runs p.tables e below _ (T3_.setTop (mkF m 13 #[.val (.ref a)] []))
    refine Runs.st (fun t' k' => XS.iconst X3_.here hx rfl (hb hby d_prog_40_method_2_13) k') ?_
    show Runs p.tables e below _ (T3_.setTop (mkF m 14 #[.val (.ref a)] [(.int (1 : Int32))]))
    refine Runs.st (fun t' k' => XS.goto X3_.here hx rfl (pc0 := 14) (pc' := 18) rfl (hb hby d_prog_40_method_2_14) (by decide) (by decide) k') ?_
    show Runs p.tables e below _ (T3_.setTop (mkF m 18 #[.val (.ref a)] [(.int (1 : Int32))]))
    refine Runs.ret X3_ hlk (v := (some (.int (1 : Int32)))) (fun h => by rw [hret] at h; cases h) (by decide) (by decide) ?_ (fun fs hr => retN X3_ hx (t := .boolean) hret (by simp) (hb hby d_prog_40_method_2_18) hr)
    try rw [e3_]
    exact ⟨rfl, N2_, rfl⟩
  · skip
    refine Runs.st (fun t' k' => Jvm.RoadKit.acmp (g := (mkF m 10 #[.val (.ref a)] [(.ref t2), (.ref tr)])) X3_ hx rfl rfl rfl (pc0 := 10) (pc' := 17) (same := false) rfl (hb hby d_prog_40_method_2_10) rfl (decide_eq_false fun u => q (Value.ref.inj u)) (by decide) (by decide) k') ?_
    show Runs p.tables e below _ (T3_.setTop (mkF m 17 #[.val (.ref a)] []))
    refine Runs.st (fun t' k' => XS.iconst X3_.here hx rfl (hb hby d_prog_40_method_2_17) k') ?_
    show Runs p.tables e below _ (T3_.setTop (mkF m 18 #[.val (.ref a)] [(.int (0 : Int32))]))
    refine Runs.ret X3_ hlk (v := (some (.int (0 : Int32)))) (fun h => by rw [hret] at h; cases h) (by decide) (by decide) ?_ (fun fs hr => retN X3_ hx (t := .boolean) hret (by simp) (hb hby d_prog_40_method_2_18) hr)
    try rw [e3_]
    exact ⟨rfl, N2_, rfl⟩
theorem pn_com_example_final_marking_finalmarking_net_ValueIsBooleanPinLaw : plainName "com/example/final_marking/finalmarking/net/ValueIsBooleanPinLaw" = true := by first | (simp [plainName, overriddenIn]; done) | decide +kernel
theorem ef_0_III (m : MethodId) (x0 : Int32) (x1 : Int32) (x2 : Int32)  : entryFrame m #[(.int x0), (.int x1), (.int x2)] maxLocals = mkF m 0 #[.val (.int x0), .val (.int x1), .val (.int x2), .unset, .unset, .unset, .unset, .unset, .unset, .unset] [] := by first | (simp [entryFrame, mkF, argsToLocals, Value.category, maxLocals]; done) | rfl
theorem pd__28_5bC_29V : parseMethodDescriptor "([C)V" = some ⟨[(.array .char)], none⟩ := by decide +kernel
theorem pd__28Ljava_2flang_2fString_3bLcom_2fexample_2ffinal_marking_2ffinalmarking_2fnet_2fVariable_24Type_3b_29V : parseMethodDescriptor "(Ljava/lang/String;Lcom/example/final_marking/finalmarking/net/Variable$Type;)V" = some ⟨[(.object "java/lang/String"), (.object "com/example/final_marking/finalmarking/net/Variable$Type")], none⟩ := by decide +kernel
theorem pd__28Lcom_2fexample_2ffinal_marking_2ffinalmarking_2fnet_2fVariable_3bZ_29V : parseMethodDescriptor "(Lcom/example/final_marking/finalmarking/net/Variable;Z)V" = some ⟨[(.object "com/example/final_marking/finalmarking/net/Variable"), .boolean], none⟩ := by decide +kernel
theorem pd__28_29Lcom_2fexample_2ffinal_marking_2ffinalmarking_2fnet_2fVariable_3b : parseMethodDescriptor "()Lcom/example/final_marking/finalmarking/net/Variable;" = some ⟨[], some (.object "com/example/final_marking/finalmarking/net/Variable")⟩ := by decide +kernel
set_option maxRecDepth 65536 in
set_option maxHeartbeats 40000000 in
theorem rm0 (l : Launch) (Z : State) (a0 : Array Value) (hw : ∀ d ∈ tables_1, d.before a0 Z = true) (ws : List Jvm.Cond) (i0 : Int32) (i1 : Int32) (i2 : Int32) (t0 t1 t2 : Addr) (zc : Int32) (h0 : Heap) (n0 : Nat) (Z0 : n0 ≤ h0.size) (old : Old Z n0 h0) (Sc : Sta Z Z.heap "java/lang/String" "COMPACT_STRINGS" "Z" (.int zc)) (hzc : ¬ zc = 0) (S0 : Sta Z Z.heap "com/example/final_marking/finalmarking/net/Variable$Type" "REAL" "Lcom/example/final_marking/finalmarking/net/Variable$Type;" (.ref t0)) (O0 : Fld Z Z.heap t0 "java/lang/Enum" "ordinal" "I" (.int (0 : Int32))) (S1 : Sta Z Z.heap "com/example/final_marking/finalmarking/net/Variable$Type" "INTEGER" "Lcom/example/final_marking/finalmarking/net/Variable$Type;" (.ref t1)) (O1 : Fld Z Z.heap t1 "java/lang/Enum" "ordinal" "I" (.int (1 : Int32))) (S2 : Sta Z Z.heap "com/example/final_marking/finalmarking/net/Variable$Type" "BOOLEAN" "Lcom/example/final_marking/finalmarking/net/Variable$Type;" (.ref t2)) (O2 : Fld Z Z.heap t2 "java/lang/Enum" "ordinal" "I" (.int (2 : Int32))) :
    MetFree l x (head1 (Jvm.Cond.code x code maxLocals ret :: ws) room_1) (fun ar_ U => ar_ = #[(.int i0), (.int i1), (.int i2)] ∧ Z.Warmed39 U.vm ∧ U.heap = h0) (fun _ _ _ _ _ => True) (fun _ U o U' => PhiW U (fun v h L => v = some (.int 1) ∧ Fr n0 L) room_1.cells room_1.slots o U') := by
  refine MetFree.of_bodySF (plainFor_of_name pn_com_example_final_marking_finalmarking_net_ValueIsBooleanPinLaw) hisR ?_
  intro p e s m args below meth c s₁ Bd hml0 hP hK
  obtain ⟨rfl, hZ, hh⟩ := hP
  have hS : s.Since s.vm h0.size := (State.WarmedH.refl s).since _
  have hk := Nat.le_refl h0.size
  have hZ0 := hZ
  have hx := Bd.exec
  have hby := Bd.bytes
  have hlk := Bd.notSynchronized
  have hml : c.maxLocals = 10 := hml0
  have hown : s.vm.findClass "com/example/final_marking/finalmarking/net/ValueIsBooleanPinLaw" = some m.cls := findClass_of_methodNamed Bd.named
  have hown0 := hown
  have hnm := (name_of_methodNamed Bd.named Bd.method).1
  have hret := Bd.returns
  have X0 : Stand p l e room_1 s m #[(.int i0), (.int i1), (.int i2)] below meth c s₁ [] 0 0 := Stand.of_body Bd
  have e0 : s₁.heap = h0 := by rw [← hh, Bd.state]; rfl
  have N0 := Fr.nil n0
  have sz := Z0
  have K := Keep.refl h0 []
  show Runs p.tables e below (PhiW s (fun v h L => v = some (.int 1) ∧ Fr n0 L) room_1.cells room_1.slots) _
  refine Runs.st (fun t' k' => castTop (ef_0_III m i0 i1 i2 ) k') ?_
  show Runs p.tables e below _ (s₁.setTop (mkF m 0 #[.val (.int i0), .val (.int i1), .val (.int i2), .unset, .unset, .unset, .unset, .unset, .unset, .unset] []))
  have ul : ¬ ((255 : Int32) < (nar .char ((i1 &&& (255 : Int32)).toUInt32.toUInt16.toUInt32.toInt32))) := by
    have a : (i1 &&& (255 : Int32)).toInt = i1.toInt % 2 ^ 8 := Jvm.Kit.i32_mask i1 255 (k := 8) (by decide) (by decide)
    rw [Int32.lt_iff_toInt_lt]
    simp only [nar]
    have b := c_i2c (i1 &&& (255 : Int32))
    have c := c_i2c ((i1 &&& (255 : Int32)).toUInt32.toUInt16.toUInt32.toInt32)
    change ¬ ((255 : Int) < _)
    omega
  have neq : ∀ {x y : Addr} {j k : Int32}, Fld Z Z.heap x "java/lang/Enum" "ordinal" "I" (.int j) → Fld Z Z.heap y "java/lang/Enum" "ordinal" "I" (.int k) → j ≠ k → x ≠ y := fun F G q => F.ne G fun e => q (Value.int.inj e)
  have hcase : ((i0 &&& (2147483647 : Int32)) % (3 : Int32)) = (0 : Int32) ∨ ((i0 &&& (2147483647 : Int32)) % (3 : Int32)) = (1 : Int32) ∨ ((i0 &&& (2147483647 : Int32)) % (3 : Int32)) = (2 : Int32) := by
    have a : (i0 &&& (2147483647 : Int32)).toInt = i0.toInt % 2 ^ 31 := Jvm.Kit.i32_mask i0 2147483647 (k := 31) (by decide) (by decide)
    have b := (c_irem (i0 &&& (2147483647 : Int32)) (3 : Int32) 3 rfl).1 (by omega)
    have t : ∀ j : Int32, (((i0 &&& (2147483647 : Int32)) % (3 : Int32)) = j ↔ ((i0 &&& (2147483647 : Int32)) % (3 : Int32)).toInt = j.toInt) := fun j => Int32.toInt_inj.symm
    rw [t 0, t 1, t 2, show (0 : Int32).toInt = 0 from rfl, show (1 : Int32).toInt = 1 from rfl, show (2 : Int32).toInt = 2 from rfl]
    omega
  refine Runs.st (fun t' k' => XS.iloadN X0.here hx rfl (hb hby at_0) rfl k') ?_
  show Runs p.tables e below _ (s₁.setTop (mkF m 1 #[.val (.int i0), .val (.int i1), .val (.int i2), .unset, .unset, .unset, .unset, .unset, .unset, .unset] [(.int i0)]))
  refine Runs.st (fun t' k' => X0.ldcInt hx hown (mvT hZ (hw _ (List.mem_of_getElem? (i := 0) rfl))) (g := (mkF m 1 #[.val (.int i0), .val (.int i1), .val (.int i2), .unset, .unset, .unset, .unset, .unset, .unset, .unset] [(.int i0)])) rfl (hb hby at_1) t' k') ?_
  show Runs p.tables e below _ (s₁.setTop (mkF m 3 #[.val (.int i0), .val (.int i1), .val (.int i2), .unset, .unset, .unset, .unset, .unset, .unset, .unset] [(.int (2147483647 : Int32)), (.int i0)]))
  refine Runs.st (fun t' k' => XS.iand X0.here hx rfl (hb hby at_3) rfl k') ?_
  show Runs p.tables e below _ (s₁.setTop (mkF m 4 #[.val (.int i0), .val (.int i1), .val (.int i2), .unset, .unset, .unset, .unset, .unset, .unset, .unset] [(.int (i0 &&& (2147483647 : Int32)))]))
  refine Runs.st (fun t' k' => XS.iconst X0.here hx rfl (hb hby at_4) k') ?_
  show Runs p.tables e below _ (s₁.setTop (mkF m 5 #[.val (.int i0), .val (.int i1), .val (.int i2), .unset, .unset, .unset, .unset, .unset, .unset, .unset] [(.int (3 : Int32)), (.int (i0 &&& (2147483647 : Int32)))]))
  refine Runs.st (fun t' k' => iremM X0 hx rfl (hb hby at_5) rfl (by decide) k') ?_
  show Runs p.tables e below _ (s₁.setTop (mkF m 6 #[.val (.int i0), .val (.int i1), .val (.int i2), .unset, .unset, .unset, .unset, .unset, .unset, .unset] [(.int ((i0 &&& (2147483647 : Int32)) % (3 : Int32)))]))
  rcases hcase with hj | hj | hj
  · skip
    rw [hj]
    show Runs p.tables e below _ (s₁.setTop (mkF m 6 #[.val (.int i0), .val (.int i1), .val (.int i2), .unset, .unset, .unset, .unset, .unset, .unset, .unset] [(.int (0 : Int32))]))
    refine Runs.st (fun t' k' => XS.istoreN X0.here hx rfl (hb hby at_6) rfl (l' := #[.val (.int i0), .val (.int i1), .val (.int i2), .val (.int (0 : Int32)), .unset, .unset, .unset, .unset, .unset, .unset]) rfl k') ?_
    show Runs p.tables e below _ (s₁.setTop (mkF m 7 #[.val (.int i0), .val (.int i1), .val (.int i2), .val (.int (0 : Int32)), .unset, .unset, .unset, .unset, .unset, .unset] []))
    refine Runs.st (fun t' k' => XS.iloadN X0.here hx rfl (hb hby at_7) rfl k') ?_
    show Runs p.tables e below _ (s₁.setTop (mkF m 8 #[.val (.int i0), .val (.int i1), .val (.int i2), .val (.int (0 : Int32)), .unset, .unset, .unset, .unset, .unset, .unset] [(.int (0 : Int32))]))
    refine Runs.st (fun t' k' => XS.ifNo X0.here hx rfl (hb hby at_8) rfl ((if0 _ _).trans (teq rfl).2) k') ?_
    show Runs p.tables e below _ (s₁.setTop (mkF m 11 #[.val (.int i0), .val (.int i1), .val (.int i2), .val (.int (0 : Int32)), .unset, .unset, .unset, .unset, .unset, .unset] []))
    obtain ⟨T1_, X1_, e1_, st1_⟩ := getS2 X0 hx hZ hown (host := "") (Or.inl (hw _ (List.mem_of_getElem? (i := 1) rfl))) Via.refl e0 (S0.ext old.2) (g := (mkF m 11 #[.val (.int i0), .val (.int i1), .val (.int i2), .val (.int (0 : Int32)), .unset, .unset, .unset, .unset, .unset, .unset] [])) rfl (hb hby at_11)
    refine Runs.st (st1_) ?_
    show Runs p.tables e below _ (T1_.setTop (mkF m 14 #[.val (.int i0), .val (.int i1), .val (.int i2), .val (.int (0 : Int32)), .unset, .unset, .unset, .unset, .unset, .unset] [(.ref t0)]))
    refine Runs.st (fun t' k' => XS.goto X1_.here hx rfl (pc0 := 14) (pc' := 31) rfl (hb hby at_14) (by decide) (by decide) k') ?_
    show Runs p.tables e below _ (T1_.setTop (mkF m 31 #[.val (.int i0), .val (.int i1), .val (.int i2), .val (.int (0 : Int32)), .unset, .unset, .unset, .unset, .unset, .unset] [(.ref t0)]))
    refine Runs.st (fun t' k' => XS.astore X1_.here hx rfl (hb hby at_31) rfl rfl (l' := #[.val (.int i0), .val (.int i1), .val (.int i2), .val (.int (0 : Int32)), .val (.ref t0), .unset, .unset, .unset, .unset, .unset]) rfl k') ?_
    show Runs p.tables e below _ (T1_.setTop (mkF m 33 #[.val (.int i0), .val (.int i1), .val (.int i2), .val (.int (0 : Int32)), .val (.ref t0), .unset, .unset, .unset, .unset, .unset] []))
    refine Runs.st (fun t' k' => XS.iconst X1_.here hx rfl (hb hby at_33) k') ?_
    show Runs p.tables e below _ (T1_.setTop (mkF m 34 #[.val (.int i0), .val (.int i1), .val (.int i2), .val (.int (0 : Int32)), .val (.ref t0), .unset, .unset, .unset, .unset, .unset] [(.int (1 : Int32))]))
    obtain ⟨T2_, h2_, k2_, X2_, e2_, E2_, A2_, st2_⟩ := newP X1_ hx hZ (hw _ (List.mem_of_getElem? (i := 4) rfl)) e1_ (g := (mkF m 34 #[.val (.int i0), .val (.int i1), .val (.int i2), .val (.int (0 : Int32)), .val (.ref t0), .unset, .unset, .unset, .unset, .unset] [(.int (1 : Int32))])) rfl (hb hby at_34) rfl (by decide) (cap := 1) (by decide) (by decide) (by decide) (by decide)
    refine Runs.st (st2_) ?_
    obtain ⟨b1, g2_⟩ : ∃ z, z = h0.size := ⟨_, rfl⟩
    rw [← g2_] at A2_
    try rw [← g2_]
    have g_b1 : n0 ≤ b1 := Nat.le_trans sz (Nat.le_of_eq g2_.symm)
    have sz_b1 : h0.size ≤ b1 := Nat.le_trans K.1 (Nat.le_of_eq g2_.symm)
    replace old := old.ext E2_
    replace sz := Nat.le_trans sz E2_.1
    replace K := K.ext E2_
    replace hk := Nat.le_trans hk E2_.1
    have V_b1 : Arv Z h2_ b1 k2_ .char (1 : Int32) [(.int (0 : Int32))] (.int (0 : Int32)) := (Arv.new A2_ (by decide)).pad (pad_rep [] (.int (0 : Int32)) 1)
    show Runs p.tables e below _ (T2_.setTop (mkF m 36 #[.val (.int i0), .val (.int i1), .val (.int i2), .val (.int (0 : Int32)), .val (.ref t0), .unset, .unset, .unset, .unset, .unset] [(.ref b1)]))
    refine Runs.st (fun t' k' => XS.astore X2_.here hx rfl (hb hby at_36) rfl rfl (l' := #[.val (.int i0), .val (.int i1), .val (.int i2), .val (.int (0 : Int32)), .val (.ref t0), .val (.ref b1), .unset, .unset, .unset, .unset]) rfl k') ?_
    show Runs p.tables e below _ (T2_.setTop (mkF m 38 #[.val (.int i0), .val (.int i1), .val (.int i2), .val (.int (0 : Int32)), .val (.ref t0), .val (.ref b1), .unset, .unset, .unset, .unset] []))
    refine Runs.st (fun t' k' => XS.aload X2_.here hx rfl (hb hby at_38) rfl rfl k') ?_
    show Runs p.tables e below _ (T2_.setTop (mkF m 40 #[.val (.int i0), .val (.int i1), .val (.int i2), .val (.int (0 : Int32)), .val (.ref t0), .val (.ref b1), .unset, .unset, .unset, .unset] [(.ref b1)]))
    refine Runs.st (fun t' k' => XS.iconst X2_.here hx rfl (hb hby at_40) k') ?_
    show Runs p.tables e below _ (T2_.setTop (mkF m 41 #[.val (.int i0), .val (.int i1), .val (.int i2), .val (.int (0 : Int32)), .val (.ref t0), .val (.ref b1), .unset, .unset, .unset, .unset] [(.int (0 : Int32)), (.ref b1)]))
    refine Runs.st (fun t' k' => XS.iloadN X2_.here hx rfl (hb hby at_41) rfl k') ?_
    show Runs p.tables e below _ (T2_.setTop (mkF m 42 #[.val (.int i0), .val (.int i1), .val (.int i2), .val (.int (0 : Int32)), .val (.ref t0), .val (.ref b1), .unset, .unset, .unset, .unset] [(.int i1), (.int (0 : Int32)), (.ref b1)]))
    refine Runs.st (fun t' k' => XS.sipush X2_.here hx rfl (hb hby at_42) k') ?_
    show Runs p.tables e below _ (T2_.setTop (mkF m 45 #[.val (.int i0), .val (.int i1), .val (.int i2), .val (.int (0 : Int32)), .val (.ref t0), .val (.ref b1), .unset, .unset, .unset, .unset] [(.int (255 : Int32)), (.int i1), (.int (0 : Int32)), (.ref b1)]))
    refine Runs.st (fun t' k' => XS.iand X2_.here hx rfl (hb hby at_45) rfl k') ?_
    show Runs p.tables e below _ (T2_.setTop (mkF m 46 #[.val (.int i0), .val (.int i1), .val (.int i2), .val (.int (0 : Int32)), .val (.ref t0), .val (.ref b1), .unset, .unset, .unset, .unset] [(.int (i1 &&& (255 : Int32))), (.int (0 : Int32)), (.ref b1)]))
    refine Runs.st (fun t' k' => XS.i2c X2_.here hx rfl (hb hby at_46) rfl k') ?_
    show Runs p.tables e below _ (T2_.setTop (mkF m 47 #[.val (.int i0), .val (.int i1), .val (.int i2), .val (.int (0 : Int32)), .val (.ref t0), .val (.ref b1), .unset, .unset, .unset, .unset] [(.int ((i1 &&& (255 : Int32)).toUInt32.toUInt16.toUInt32.toInt32)), (.int (0 : Int32)), (.ref b1)]))
    obtain ⟨cl3_, Ar3_, q3_, S3_, M3_, Ha3_, G3_⟩ := V_b1
    have hin3_ : ¬ ((0 : Int32) < 0 ∨ cl3_.slots.size ≤ ((0 : Int32)).toNatClampNeg) := inb_of S3_ ⟨by decide, by decide⟩
    obtain ⟨T3_, h3_, X3_, e3_, W3_, st3_⟩ := stC X2_ hx hZ e2_ Ar3_ (j := (0 : Int32)) hin3_ (g := (mkF m 47 #[.val (.int i0), .val (.int i1), .val (.int i2), .val (.int (0 : Int32)), .val (.ref t0), .val (.ref b1), .unset, .unset, .unset, .unset] [(.int ((i1 &&& (255 : Int32)).toUInt32.toUInt16.toUInt32.toInt32)), (.int (0 : Int32)), (.ref b1)])) rfl rfl (hb hby at_47)
    refine Runs.st (st3_) ?_
    have V_b1 := Arv.set Ar3_ q3_ S3_ M3_ Ha3_ G3_ (fits_nar_char _) W3_ 0 rfl (Nat.le_of_ble_eq_true rfl)
    replace old := old.wr W3_ g_b1
    replace sz := Nat.le_trans sz (Keep.of_wr W3_).1
    replace hk := Nat.le_trans hk (Keep.of_wr W3_).1
    have N3_ := Fr.snoc X3_ N0 g_b1
    replace K := K.wr W3_ (Or.inr sz_b1)
    show Runs p.tables e below _ (T3_.setTop (mkF m 48 #[.val (.int i0), .val (.int i1), .val (.int i2), .val (.int (0 : Int32)), .val (.ref t0), .val (.ref b1), .unset, .unset, .unset, .unset] []))
    obtain ⟨T4_, h4_, X4_, e4_, E4_, A4_, D4_, -, st4_⟩ := newO X3_ hx hZ hown (hw _ (List.mem_of_getElem? (i := 5) rfl)) (hw _ (List.mem_of_getElem? (i := 6) rfl)) (hw _ (List.mem_of_getElem? (i := 7) rfl)) e3_ (g := (mkF m 48 #[.val (.int i0), .val (.int i1), .val (.int i2), .val (.int (0 : Int32)), .val (.ref t0), .val (.ref b1), .unset, .unset, .unset, .unset] [])) rfl (hb hby at_48) (by decide) (by decide)
    refine Runs.st (st4_) ?_
    obtain ⟨b2, g4_⟩ : ∃ z, z = h3_.size := ⟨_, rfl⟩
    rw [← g4_] at A4_ D4_
    try rw [← g4_]
    have g_b2 : n0 ≤ b2 := Nat.le_trans sz (Nat.le_of_eq g4_.symm)
    have sz_b2 : h0.size ≤ b2 := Nat.le_trans K.1 (Nat.le_of_eq g4_.symm)
    have ne_b1_b2 : b1 ≠ b2 := Nat.ne_of_lt (Nat.lt_of_lt_of_le V_b1.lt (Nat.le_of_eq g4_.symm))
    replace old := old.ext E4_
    replace V_b1 := V_b1.ext E4_
    replace sz := Nat.le_trans sz E4_.1
    replace K := K.ext E4_
    replace hk := Nat.le_trans hk E4_.1
    have E_b2 := A4_
    have F_b2_name : Fld Z h4_ b2 "com/example/final_marking/finalmarking/net/Variable" "name" "Ljava/lang/String;" .null := D4_ (Or.inr (hw _ (List.mem_of_getElem? (i := 59) rfl))) (ty := (.object "java/lang/String")) (by decide)
    have F_b2_type : Fld Z h4_ b2 "com/example/final_marking/finalmarking/net/Variable" "type" "Lcom/example/final_marking/finalmarking/net/Variable$Type;" .null := D4_ (Or.inr (hw _ (List.mem_of_getElem? (i := 61) rfl))) (ty := (.object "com/example/final_marking/finalmarking/net/Variable$Type")) (by decide)
    show Runs p.tables e below _ (T4_.setTop (mkF m 51 #[.val (.int i0), .val (.int i1), .val (.int i2), .val (.int (0 : Int32)), .val (.ref t0), .val (.ref b1), .unset, .unset, .unset, .unset] [(.ref b2)]))
    refine Runs.st (fun t' k' => XS.dup X4_.here hx rfl (hb hby at_51) rfl rfl k') ?_
    show Runs p.tables e below _ (T4_.setTop (mkF m 52 #[.val (.int i0), .val (.int i1), .val (.int i2), .val (.int (0 : Int32)), .val (.ref t0), .val (.ref b1), .unset, .unset, .unset, .unset] [(.ref b2), (.ref b2)]))
    obtain ⟨T5_, h5_, X5_, e5_, E5_, A5_, D5_, -, st5_⟩ := newO X4_ hx hZ hown (hw _ (List.mem_of_getElem? (i := 8) rfl)) (hw _ (List.mem_of_getElem? (i := 9) rfl)) (hw _ (List.mem_of_getElem? (i := 10) rfl)) e4_ (g := (mkF m 52 #[.val (.int i0), .val (.int i1), .val (.int i2), .val (.int (0 : Int32)), .val (.ref t0), .val (.ref b1), .unset, .unset, .unset, .unset] [(.ref b2), (.ref b2)])) rfl (hb hby at_52) (by decide) (by decide)
    refine Runs.st (st5_) ?_
    obtain ⟨b3, g5_⟩ : ∃ z, z = h4_.size := ⟨_, rfl⟩
    rw [← g5_] at A5_ D5_
    try rw [← g5_]
    have g_b3 : n0 ≤ b3 := Nat.le_trans sz (Nat.le_of_eq g5_.symm)
    have sz_b3 : h0.size ≤ b3 := Nat.le_trans K.1 (Nat.le_of_eq g5_.symm)
    have ne_b1_b3 : b1 ≠ b3 := Nat.ne_of_lt (Nat.lt_of_lt_of_le V_b1.lt (Nat.le_of_eq g5_.symm))
    have ne_b2_b3 : b2 ≠ b3 := Nat.ne_of_lt (Nat.lt_of_lt_of_le E_b2.lt (Nat.le_of_eq g5_.symm))
    replace old := old.ext E5_
    replace V_b1 := V_b1.ext E5_
    replace E_b2 := E_b2.ext E5_
    replace F_b2_name := F_b2_name.ext E5_
    replace F_b2_type := F_b2_type.ext E5_
    replace sz := Nat.le_trans sz E5_.1
    replace K := K.ext E5_
    replace hk := Nat.le_trans hk E5_.1
    have E_b3 := A5_
    have F_b3_coder : Fld Z h5_ b3 "java/lang/String" "coder" "B" (.int (0 : Int32)) := D5_ (Or.inr (hw _ (List.mem_of_getElem? (i := 34) rfl))) (ty := .byte) (by decide)
    have F_b3_value : Fld Z h5_ b3 "java/lang/String" "value" "[B" .null := D5_ (Or.inr (hw _ (List.mem_of_getElem? (i := 36) rfl))) (ty := (.array .byte)) (by decide)
    show Runs p.tables e below _ (T5_.setTop (mkF m 55 #[.val (.int i0), .val (.int i1), .val (.int i2), .val (.int (0 : Int32)), .val (.ref t0), .val (.ref b1), .unset, .unset, .unset, .unset] [(.ref b3), (.ref b2), (.ref b2)]))
    refine Runs.st (fun t' k' => XS.dup X5_.here hx rfl (hb hby at_55) rfl rfl k') ?_
    show Runs p.tables e below _ (T5_.setTop (mkF m 56 #[.val (.int i0), .val (.int i1), .val (.int i2), .val (.int (0 : Int32)), .val (.ref t0), .val (.ref b1), .unset, .unset, .unset, .unset] [(.ref b3), (.ref b3), (.ref b2), (.ref b2)]))
    refine Runs.st (fun t' k' => XS.aload X5_.here hx rfl (hb hby at_56) rfl rfl k') ?_
    show Runs p.tables e below _ (T5_.setTop (mkF m 58 #[.val (.int i0), .val (.int i1), .val (.int i2), .val (.int (0 : Int32)), .val (.ref t0), .val (.ref b1), .unset, .unset, .unset, .unset] [(.ref b1), (.ref b3), (.ref b3), (.ref b2), (.ref b2)]))
    have kz6_ := K.1
    have gz6_ := sz
    have lt6__b1 := V_b1.lt
    have lt6__b2 := E_b2.lt
    have lt6__b3 := E_b3.lt
    obtain ⟨_, _, ⟨T6_, L6_, k6_, n6_⟩, -, X6_, ⟨Lc6_, hQ6_, l6_, y6_, z6_⟩, st6_⟩ := X5_.specialBack hx (y := (⟨"java/lang/String", "<init>", "([C)V"⟩ : MethodName)) rfl hown (mvT hZ (hw _ (List.mem_of_getElem? (i := 11) rfl))) (mvT hZ (hw _ (List.mem_of_getElem? (i := 12) rfl))) (mvT hZ (hw _ (List.mem_of_getElem? (i := 13) rfl))) (by decide) (backOf (W := 3) (rmIC1 l Z a0 hw [] b3 b1 (nar .char ((i1 &&& (255 : Int32)).toUInt32.toUInt16.toUInt32.toInt32)) _ zc h5_ n0 sz E_b3 F_b3_value F_b3_coder g_b3 V_b1 (Sc.ext old.2) hzc ul) hZ (hw _ (List.mem_of_getElem? (i := 13) rfl)) (hw _ (List.mem_of_getElem? (i := 10) rfl)) (by decide) (by decide)) (g := (mkF m 58 #[.val (.int i0), .val (.int i1), .val (.int i2), .val (.int (0 : Int32)), .val (.ref t0), .val (.ref b1), .unset, .unset, .unset, .unset] [(.ref b1), (.ref b3), (.ref b3), (.ref b2), (.ref b2)])) rfl (by rw [hml]; rfl) (Steps.refl _) (a := b3) (argsL := [(.ref b1)]) (rest := [(.ref b3), (.ref b2), (.ref b2)]) (lenOf pd__28_5bC_29V rfl) rfl (by show 2 * 0 + _ ≤ _; exact Nat.le_of_eq rfl) (hb hby at_58) (fun _ _ => ⟨rfl, e5_, (by decide : 3 + 1 ≤ _), (by decide : 7 + 1 ≤ _)⟩)
    dsimp only [Pt.U, Pt.locs, Pt.cells, Pt.slots] at X6_ l6_ y6_ z6_ st6_ hQ6_
    subst l6_ y6_ z6_
    obtain ⟨rfl, N6_q, K6_, E_b3, F_b3_coder, b4, kb4, szb, F_b3_value, V_b4⟩ := hQ6_
    have N6_ := Fr.app N3_ N6_q
    refine Runs.tr st6_ ?_
    replace X6_ := wider X6_ (c' := 4) (s' := 8) (by decide) (by decide)
    replace old := old.keep K6_ (allS g_b3 all0)
    replace V_b1 := V_b1.keep K6_ (ninS ne_b1_b3 nin0)
    replace E_b2 := E_b2.keep K6_
    replace F_b2_name := F_b2_name.keep K6_ (ninS ne_b2_b3 nin0)
    replace F_b2_type := F_b2_type.keep K6_ (ninS ne_b2_b3 nin0)
    replace sz := Nat.le_trans sz K6_.1
    replace hk := Nat.le_trans hk K6_.1
    replace K := K.trans K6_ (allS (Or.inr sz_b3) all0)
    have sz_b4 : h0.size ≤ b4 := Nat.le_trans kz6_ szb
    have g_b4 : n0 ≤ b4 := Nat.le_trans gz6_ szb
    have ne_b1_b4 : b1 ≠ b4 := Nat.ne_of_lt (Nat.lt_of_lt_of_le lt6__b1 szb)
    have ne_b2_b4 : b2 ≠ b4 := Nat.ne_of_lt (Nat.lt_of_lt_of_le lt6__b2 szb)
    have ne_b3_b4 : b3 ≠ b4 := Nat.ne_of_lt (Nat.lt_of_lt_of_le lt6__b3 szb)
    show Runs p.tables e below _ (T6_.setTop (mkF m 61 #[.val (.int i0), .val (.int i1), .val (.int i2), .val (.int (0 : Int32)), .val (.ref t0), .val (.ref b1), .unset, .unset, .unset, .unset] [(.ref b3), (.ref b2), (.ref b2)]))
    refine Runs.st (fun t' k' => XS.aload X6_.here hx rfl (hb hby at_61) rfl rfl k') ?_
    show Runs p.tables e below _ (T6_.setTop (mkF m 63 #[.val (.int i0), .val (.int i1), .val (.int i2), .val (.int (0 : Int32)), .val (.ref t0), .val (.ref b1), .unset, .unset, .unset, .unset] [(.ref t0), (.ref b3), (.ref b2), (.ref b2)]))
    obtain ⟨_, _, ⟨T7_, L7_, k7_, n7_⟩, -, X7_, hS7_, hg7_, ⟨Lc7_, hQ7_, l7_, y7_, z7_⟩, st7_⟩ := (show Stand p l e room_1 (s.setVm s.vm) m _ below meth c _ _ _ _ from X6_).specialBackS hx (y := (⟨"com/example/final_marking/finalmarking/net/Variable", "<init>", "(Ljava/lang/String;Lcom/example/final_marking/finalmarking/net/Variable$Type;)V"⟩ : MethodName)) rfl hown (mvT hZ (hw _ (List.mem_of_getElem? (i := 37) rfl))) (mvT hZ (hw _ (List.mem_of_getElem? (i := 38) rfl))) (mvT hZ (hw _ (List.mem_of_getElem? (i := 39) rfl))) (by decide) (backOfS (W := 1) (rmVar l Z a0 hw [] b2 b3 t0 b4 _ _ T6_.heap n0 sz E_b2 F_b2_name F_b2_type g_b2 E_b3 F_b3_value V_b4 (Ne.symm ne_b2_b3) (Ne.symm ne_b2_b4)) hZ (hw _ (List.mem_of_getElem? (i := 39) rfl)) (hw _ (List.mem_of_getElem? (i := 7) rfl)) (by decide) (by decide)) (g := (mkF m 63 #[.val (.int i0), .val (.int i1), .val (.int i2), .val (.int (0 : Int32)), .val (.ref t0), .val (.ref b1), .unset, .unset, .unset, .unset] [(.ref t0), (.ref b3), (.ref b2), (.ref b2)])) rfl (by rw [hml]; rfl) (Steps.refl _) (a := b2) (argsL := [(.ref b3), (.ref t0)]) (rest := [(.ref b2)]) (lenOf pd__28Ljava_2flang_2fString_3bLcom_2fexample_2ffinal_marking_2ffinalmarking_2fnet_2fVariable_24Type_3b_29V rfl) rfl (by show 2 * 0 + _ ≤ _; exact Nat.le_of_eq rfl) (hb hby at_63) (fun _ _ => ⟨rfl, rfl, (by decide : 4 + 2 ≤ _), (by decide : 8 + 20 ≤ _)⟩)
    dsimp only [Pt.U] at hS7_ hg7_
    dsimp only [Pt.U, Pt.locs, Pt.cells, Pt.slots] at X7_ l7_ y7_ z7_ st7_ hQ7_
    subst l7_ y7_ z7_
    obtain ⟨rfl, N7_q, K7_, E_b2, F_b2_name, F_b2_type⟩ := hQ7_
    have N7_ := Fr.app N6_ N7_q
    replace hS := foldS (vm0 := s.vm) (T := T6_) hS hk hS7_ hg7_
    have hk := Nat.le_refl T7_.heap.size
    replace hZ : Z.Warmed39 (s.setVm T7_.vm).vm := State.Warmed39.trans (t := s) hZ0 hS.1
    replace hown : (s.setVm T7_.vm).vm.findClass "com/example/final_marking/finalmarking/net/ValueIsBooleanPinLaw" = some m.cls := by rw [show (s.setVm T7_.vm).vm = T7_.vm from rfl, hS.1.alike.findClass]; exact hown0
    refine Runs.tr st7_ ?_
    replace X7_ := wider X7_ (c' := 6) (s' := 28) (by decide) (by decide)
    replace old := old.keep K7_ (allS g_b2 all0)
    replace V_b1 := V_b1.keep K7_ (ninS ne_b1_b2 nin0)
    replace E_b3 := E_b3.keep K7_
    replace F_b3_value := F_b3_value.keep K7_ (ninS (Ne.symm ne_b2_b3) nin0)
    replace V_b4 := V_b4.keep K7_ (ninS (Ne.symm ne_b2_b4) nin0)
    replace sz := Nat.le_trans sz K7_.1
    replace K := K.trans K7_ (allS (Or.inr sz_b2) all0)
    show Runs p.tables e below _ (T7_.setTop (mkF m 66 #[.val (.int i0), .val (.int i1), .val (.int i2), .val (.int (0 : Int32)), .val (.ref t0), .val (.ref b1), .unset, .unset, .unset, .unset] [(.ref b2)]))
    refine Runs.st (fun t' k' => XS.astore X7_.here hx rfl (hb hby at_66) rfl rfl (l' := #[.val (.int i0), .val (.int i1), .val (.int i2), .val (.int (0 : Int32)), .val (.ref t0), .val (.ref b1), .val (.ref b2), .unset, .unset, .unset]) rfl k') ?_
    show Runs p.tables e below _ (T7_.setTop (mkF m 68 #[.val (.int i0), .val (.int i1), .val (.int i2), .val (.int (0 : Int32)), .val (.ref t0), .val (.ref b1), .val (.ref b2), .unset, .unset, .unset] []))
    refine Runs.st (fun t' k' => XS.iloadN X7_.here hx rfl (hb hby at_68) rfl k') ?_
    show Runs p.tables e below _ (T7_.setTop (mkF m 69 #[.val (.int i0), .val (.int i1), .val (.int i2), .val (.int (0 : Int32)), .val (.ref t0), .val (.ref b1), .val (.ref b2), .unset, .unset, .unset] [(.int i2)]))
    refine Runs.st (fun t' k' => XS.iconst X7_.here hx rfl (hb hby at_69) k') ?_
    show Runs p.tables e below _ (T7_.setTop (mkF m 70 #[.val (.int i0), .val (.int i1), .val (.int i2), .val (.int (0 : Int32)), .val (.ref t0), .val (.ref b1), .val (.ref b2), .unset, .unset, .unset] [(.int (1 : Int32)), (.int i2)]))
    refine Runs.st (fun t' k' => XS.iand X7_.here hx rfl (hb hby at_70) rfl k') ?_
    show Runs p.tables e below _ (T7_.setTop (mkF m 71 #[.val (.int i0), .val (.int i1), .val (.int i2), .val (.int (0 : Int32)), .val (.ref t0), .val (.ref b1), .val (.ref b2), .unset, .unset, .unset] [(.int (i2 &&& (1 : Int32)))]))
    by_cases c71 : (i2 &&& (1 : Int32)) = (0 : Int32)
    · skip
      refine Runs.st (fun t' k' => XS.ifYes X7_.here hx rfl (pc0 := 71) (pc' := 78) rfl (hb hby at_71) rfl ((if0 _ _).trans (teq c71).1) (by decide) (by decide) k') ?_
      show Runs p.tables e below _ (T7_.setTop (mkF m 78 #[.val (.int i0), .val (.int i1), .val (.int i2), .val (.int (0 : Int32)), .val (.ref t0), .val (.ref b1), .val (.ref b2), .unset, .unset, .unset] []))
      refine Runs.st (fun t' k' => XS.iconst X7_.here hx rfl (hb hby at_78) k') ?_
      show Runs p.tables e below _ (T7_.setTop (mkF m 79 #[.val (.int i0), .val (.int i1), .val (.int i2), .val (.int (0 : Int32)), .val (.ref t0), .val (.ref b1), .val (.ref b2), .unset, .unset, .unset] [(.int (0 : Int32))]))
      refine Runs.st (fun t' k' => XS.istore X7_.here hx rfl (hb hby at_79) rfl (l' := #[.val (.int i0), .val (.int i1), .val (.int i2), .val (.int (0 : Int32)), .val (.ref t0), .val (.ref b1), .val (.ref b2), .val (.int (0 : Int32)), .unset, .unset]) rfl k') ?_
      show Runs p.tables e below _ (T7_.setTop (mkF m 81 #[.val (.int i0), .val (.int i1), .val (.int i2), .val (.int (0 : Int32)), .val (.ref t0), .val (.ref b1), .val (.ref b2), .val (.int (0 : Int32)), .unset, .unset] []))
      obtain ⟨T8_, h8_, X8_, e8_, E8_, A8_, D8_, -, st8_⟩ := newO X7_ hx hZ hown (hw _ (List.mem_of_getElem? (i := 62) rfl)) (hw _ (List.mem_of_getElem? (i := 63) rfl)) (hw _ (List.mem_of_getElem? (i := 64) rfl)) rfl (g := (mkF m 81 #[.val (.int i0), .val (.int i1), .val (.int i2), .val (.int (0 : Int32)), .val (.ref t0), .val (.ref b1), .val (.ref b2), .val (.int (0 : Int32)), .unset, .unset] [])) rfl (hb hby at_81) (by decide) (by decide)
      refine Runs.st (st8_) ?_
      obtain ⟨b5, g8_⟩ : ∃ z, z = T7_.heap.size := ⟨_, rfl⟩
      rw [← g8_] at A8_ D8_
      try rw [← g8_]
      have g_b5 : n0 ≤ b5 := Nat.le_trans sz (Nat.le_of_eq g8_.symm)
      have sz_b5 : h0.size ≤ b5 := Nat.le_trans K.1 (Nat.le_of_eq g8_.symm)
      have ne_b2_b5 : b2 ≠ b5 := Nat.ne_of_lt (Nat.lt_of_lt_of_le E_b2.lt (Nat.le_of_eq g8_.symm))
      replace old := old.ext E8_
      replace E_b2 := E_b2.ext E8_
      replace F_b2_type := F_b2_type.ext E8_
      replace sz := Nat.le_trans sz E8_.1
      replace K := K.ext E8_
      replace hk := Nat.le_trans hk E8_.1
      have E_b5 := A8_
      have F_b5_variable : Fld Z h8_ b5 "com/example/final_marking/finalmarking/net/Guard$Value" "variable" "Lcom/example/final_marking/finalmarking/net/Variable;" .null := D8_ (Or.inr (hw _ (List.mem_of_getElem? (i := 70) rfl))) (ty := (.object "com/example/final_marking/finalmarking/net/Variable")) (by decide)
      have F_b5_written : Fld Z h8_ b5 "com/example/final_marking/finalmarking/net/Guard$Value" "written" "Z" (.int (0 : Int32)) := D8_ (Or.inr (hw _ (List.mem_of_getElem? (i := 72) rfl))) (ty := .boolean) (by decide)
      show Runs p.tables e below _ (T8_.setTop (mkF m 84 #[.val (.int i0), .val (.int i1), .val (.int i2), .val (.int (0 : Int32)), .val (.ref t0), .val (.ref b1), .val (.ref b2), .val (.int (0 : Int32)), .unset, .unset] [(.ref b5)]))
      refine Runs.st (fun t' k' => XS.dup X8_.here hx rfl (hb hby at_84) rfl rfl k') ?_
      show Runs p.tables e below _ (T8_.setTop (mkF m 85 #[.val (.int i0), .val (.int i1), .val (.int i2), .val (.int (0 : Int32)), .val (.ref t0), .val (.ref b1), .val (.ref b2), .val (.int (0 : Int32)), .unset, .unset] [(.ref b5), (.ref b5)]))
      refine Runs.st (fun t' k' => XS.aload X8_.here hx rfl (hb hby at_85) rfl rfl k') ?_
      show Runs p.tables e below _ (T8_.setTop (mkF m 87 #[.val (.int i0), .val (.int i1), .val (.int i2), .val (.int (0 : Int32)), .val (.ref t0), .val (.ref b1), .val (.ref b2), .val (.int (0 : Int32)), .unset, .unset] [(.ref b2), (.ref b5), (.ref b5)]))
      refine Runs.st (fun t' k' => XS.iload X8_.here hx rfl (hb hby at_87) rfl k') ?_
      show Runs p.tables e below _ (T8_.setTop (mkF m 89 #[.val (.int i0), .val (.int i1), .val (.int i2), .val (.int (0 : Int32)), .val (.ref t0), .val (.ref b1), .val (.ref b2), .val (.int (0 : Int32)), .unset, .unset] [(.int (0 : Int32)), (.ref b2), (.ref b5), (.ref b5)]))
      obtain ⟨_, _, ⟨T9_, L9_, k9_, n9_⟩, -, X9_, ⟨Lc9_, hQ9_, l9_, y9_, z9_⟩, st9_⟩ := X8_.specialBack hx (y := (⟨"com/example/final_marking/finalmarking/net/Guard$Value", "<init>", "(Lcom/example/final_marking/finalmarking/net/Variable;Z)V"⟩ : MethodName)) rfl hown (mvT hZ (hw _ (List.mem_of_getElem? (i := 65) rfl))) (mvT hZ (hw _ (List.mem_of_getElem? (i := 66) rfl))) (mvT hZ (hw _ (List.mem_of_getElem? (i := 67) rfl))) (by decide) (backOf (W := 1) (rmVal l Z a0 hw [] b5 b2 (0 : Int32) h8_ n0 sz E_b5 F_b5_variable F_b5_written g_b5) hZ (hw _ (List.mem_of_getElem? (i := 67) rfl)) (hw _ (List.mem_of_getElem? (i := 64) rfl)) (by decide) (by decide)) (g := (mkF m 89 #[.val (.int i0), .val (.int i1), .val (.int i2), .val (.int (0 : Int32)), .val (.ref t0), .val (.ref b1), .val (.ref b2), .val (.int (0 : Int32)), .unset, .unset] [(.int (0 : Int32)), (.ref b2), (.ref b5), (.ref b5)])) rfl (by rw [hml]; rfl) (Steps.refl _) (a := b5) (argsL := [(.ref b2), (.int (0 : Int32))]) (rest := [(.ref b5)]) (lenOf pd__28Lcom_2fexample_2ffinal_marking_2ffinalmarking_2fnet_2fVariable_3bZ_29V rfl) rfl (by show 2 * 0 + _ ≤ _; exact Nat.le_of_eq rfl) (hb hby at_89) (fun _ _ => ⟨rfl, e8_, (by decide : 7 + 0 ≤ _), (by decide : 30 + 0 ≤ _)⟩)
      dsimp only [Pt.U, Pt.locs, Pt.cells, Pt.slots] at X9_ l9_ y9_ z9_ st9_ hQ9_
      subst l9_ y9_ z9_
      obtain ⟨rfl, N9_q, K9_, E_b5, F_b5_variable, F_b5_written⟩ := hQ9_
      have N9_ := Fr.app N7_ N9_q
      refine Runs.tr st9_ ?_
      replace X9_ := wider X9_ (c' := 7) (s' := 30) (by decide) (by decide)
      replace old := old.keep K9_ (allS g_b5 all0)
      replace E_b2 := E_b2.keep K9_
      replace F_b2_type := F_b2_type.keep K9_ (ninS ne_b2_b5 nin0)
      replace sz := Nat.le_trans sz K9_.1
      replace hk := Nat.le_trans hk K9_.1
      replace K := K.trans K9_ (allS (Or.inr sz_b5) all0)
      show Runs p.tables e below _ (T9_.setTop (mkF m 92 #[.val (.int i0), .val (.int i1), .val (.int i2), .val (.int (0 : Int32)), .val (.ref t0), .val (.ref b1), .val (.ref b2), .val (.int (0 : Int32)), .unset, .unset] [(.ref b5)]))
      refine Runs.st (fun t' k' => XS.astore X9_.here hx rfl (hb hby at_92) rfl rfl (l' := #[.val (.int i0), .val (.int i1), .val (.int i2), .val (.int (0 : Int32)), .val (.ref t0), .val (.ref b1), .val (.ref b2), .val (.int (0 : Int32)), .val (.ref b5), .unset]) rfl k') ?_
      show Runs p.tables e below _ (T9_.setTop (mkF m 94 #[.val (.int i0), .val (.int i1), .val (.int i2), .val (.int (0 : Int32)), .val (.ref t0), .val (.ref b1), .val (.ref b2), .val (.int (0 : Int32)), .val (.ref b5), .unset] []))
      refine Runs.st (fun t' k' => XS.iloadN X9_.here hx rfl (hb hby at_94) rfl k') ?_
      show Runs p.tables e below _ (T9_.setTop (mkF m 95 #[.val (.int i0), .val (.int i1), .val (.int i2), .val (.int (0 : Int32)), .val (.ref t0), .val (.ref b1), .val (.ref b2), .val (.int (0 : Int32)), .val (.ref b5), .unset] [(.int (0 : Int32))]))
      refine Runs.st (fun t' k' => XS.iconst X9_.here hx rfl (hb hby at_95) k') ?_
      show Runs p.tables e below _ (T9_.setTop (mkF m 96 #[.val (.int i0), .val (.int i1), .val (.int i2), .val (.int (0 : Int32)), .val (.ref t0), .val (.ref b1), .val (.ref b2), .val (.int (0 : Int32)), .val (.ref b5), .unset] [(.int (2 : Int32)), (.int (0 : Int32))]))
      refine Runs.st (fun t' k' => XS.icmpYes X9_.here hx rfl (pc0 := 96) (pc' := 103) rfl (hb hby at_96) rfl (feq (by decide)).2 (by decide) (by decide) k') ?_
      show Runs p.tables e below _ (T9_.setTop (mkF m 103 #[.val (.int i0), .val (.int i1), .val (.int i2), .val (.int (0 : Int32)), .val (.ref t0), .val (.ref b1), .val (.ref b2), .val (.int (0 : Int32)), .val (.ref b5), .unset] []))
      refine Runs.st (fun t' k' => XS.iconst X9_.here hx rfl (hb hby at_103) k') ?_
      show Runs p.tables e below _ (T9_.setTop (mkF m 104 #[.val (.int i0), .val (.int i1), .val (.int i2), .val (.int (0 : Int32)), .val (.ref t0), .val (.ref b1), .val (.ref b2), .val (.int (0 : Int32)), .val (.ref b5), .unset] [(.int (0 : Int32))]))
      refine Runs.st (fun t' k' => XS.istore X9_.here hx rfl (hb hby at_104) rfl (l' := #[.val (.int i0), .val (.int i1), .val (.int i2), .val (.int (0 : Int32)), .val (.ref t0), .val (.ref b1), .val (.ref b2), .val (.int (0 : Int32)), .val (.ref b5), .val (.int (0 : Int32))]) rfl k') ?_
      show Runs p.tables e below _ (T9_.setTop (mkF m 106 #[.val (.int i0), .val (.int i1), .val (.int i2), .val (.int (0 : Int32)), .val (.ref t0), .val (.ref b1), .val (.ref b2), .val (.int (0 : Int32)), .val (.ref b5), .val (.int (0 : Int32))] []))
      refine Runs.st (fun t' k' => XS.aload X9_.here hx rfl (hb hby at_106) rfl rfl k') ?_
      show Runs p.tables e below _ (T9_.setTop (mkF m 108 #[.val (.int i0), .val (.int i1), .val (.int i2), .val (.int (0 : Int32)), .val (.ref t0), .val (.ref b1), .val (.ref b2), .val (.int (0 : Int32)), .val (.ref b5), .val (.int (0 : Int32))] [(.ref b5)]))
      obtain ⟨cq10_, kq10_, q10_a, q10_b, q10_c⟩ := isOf hZ rfl E_b5
      obtain ⟨_, _, ⟨T10_, L10_, k10_, n10_⟩, -, X10_, ⟨Lc10_, hQ10_, l10_, y10_, z10_⟩, st10_⟩ := X9_.virtualBack hx (y := (⟨"com/example/final_marking/finalmarking/net/Guard$Value", "isBoolean", "()Z"⟩ : MethodName)) (z := (⟨"com/example/final_marking/finalmarking/net/Guard$Value", "isBoolean", "()Z"⟩ : MethodName)) hown (mvT hZ (hw _ (List.mem_of_getElem? (i := 73) rfl))) (mvT hZ (hw _ (List.mem_of_getElem? (i := 74) rfl))) (notFace_of_selects (args := #[]) (mvT hZ (hw _ (List.mem_of_getElem? (i := 76) rfl)))) (mvT hZ (hw _ (List.mem_of_getElem? (i := 76) rfl))) (mvT hZ (hw _ (List.mem_of_getElem? (i := 75) rfl))) (by decide) (backOf (W := 0) (rmIsB l Z a0 hw [] b5 b2 t0 t2 (0 : Int32) T9_.heap n0 sz F_b5_variable E_b2 F_b2_type (S2.ext old.2) (Or.inr ⟨neq O0 O2 (by decide), rfl⟩)) hZ (hw _ (List.mem_of_getElem? (i := 77) rfl)) (hw _ (List.mem_of_getElem? (i := 64) rfl)) (by decide) (by decide)) q10_a q10_c (g := (mkF m 108 #[.val (.int i0), .val (.int i1), .val (.int i2), .val (.int (0 : Int32)), .val (.ref t0), .val (.ref b1), .val (.ref b2), .val (.int (0 : Int32)), .val (.ref b5), .val (.int (0 : Int32))] [(.ref b5)])) rfl (by rw [hml]; rfl) (Steps.refl _) (argsL := []) (rest := []) (lenOf pd__28_29Z rfl) rfl (by show 2 * 0 + _ ≤ _; exact Nat.le_of_eq rfl) (hb hby at_108) (fun _ _ => ⟨rfl, rfl, (by decide : 7 + 0 ≤ _), (by decide : 30 + 0 ≤ _)⟩)
      dsimp only [Pt.U, Pt.locs, Pt.cells, Pt.slots] at X10_ l10_ y10_ z10_ st10_ hQ10_
      subst l10_ y10_ z10_
      obtain ⟨rfl, N10_q, e10_⟩ := hQ10_
      have N10_ := Fr.app N9_ N10_q
      refine Runs.tr st10_ ?_
      replace X10_ := wider X10_ (c' := 7) (s' := 30) (by decide) (by decide)
      show Runs p.tables e below _ (T10_.setTop (mkF m 111 #[.val (.int i0), .val (.int i1), .val (.int i2), .val (.int (0 : Int32)), .val (.ref t0), .val (.ref b1), .val (.ref b2), .val (.int (0 : Int32)), .val (.ref b5), .val (.int (0 : Int32))] [(.int (0 : Int32))]))
      refine Runs.st (fun t' k' => XS.iload X10_.here hx rfl (hb hby at_111) rfl k') ?_
      show Runs p.tables e below _ (T10_.setTop (mkF m 113 #[.val (.int i0), .val (.int i1), .val (.int i2), .val (.int (0 : Int32)), .val (.ref t0), .val (.ref b1), .val (.ref b2), .val (.int (0 : Int32)), .val (.ref b5), .val (.int (0 : Int32))] [(.int (0 : Int32)), (.int (0 : Int32))]))
      refine Runs.st (fun t' k' => XS.icmpNo X10_.here hx rfl (hb hby at_113) rfl (teq rfl).2 k') ?_
      show Runs p.tables e below _ (T10_.setTop (mkF m 116 #[.val (.int i0), .val (.int i1), .val (.int i2), .val (.int (0 : Int32)), .val (.ref t0), .val (.ref b1), .val (.ref b2), .val (.int (0 : Int32)), .val (.ref b5), .val (.int (0 : Int32))] []))
      refine Runs.st (fun t' k' => XS.aload X10_.here hx rfl (hb hby at_116) rfl rfl k') ?_
      show Runs p.tables e below _ (T10_.setTop (mkF m 118 #[.val (.int i0), .val (.int i1), .val (.int i2), .val (.int (0 : Int32)), .val (.ref t0), .val (.ref b1), .val (.ref b2), .val (.int (0 : Int32)), .val (.ref b5), .val (.int (0 : Int32))] [(.ref b5)]))
      obtain ⟨cq11_, kq11_, q11_a, q11_b, q11_c⟩ := isOf hZ e10_ E_b5
      obtain ⟨_, _, ⟨T11_, L11_, k11_, n11_⟩, -, X11_, ⟨Lc11_, hQ11_, l11_, y11_, z11_⟩, st11_⟩ := X10_.virtualBack hx (y := (⟨"com/example/final_marking/finalmarking/net/Guard$Value", "variable", "()Lcom/example/final_marking/finalmarking/net/Variable;"⟩ : MethodName)) (z := (⟨"com/example/final_marking/finalmarking/net/Guard$Value", "variable", "()Lcom/example/final_marking/finalmarking/net/Variable;"⟩ : MethodName)) hown (mvT hZ (hw _ (List.mem_of_getElem? (i := 85) rfl))) (mvT hZ (hw _ (List.mem_of_getElem? (i := 86) rfl))) (notFace_of_selects (args := #[]) (mvT hZ (hw _ (List.mem_of_getElem? (i := 88) rfl)))) (mvT hZ (hw _ (List.mem_of_getElem? (i := 88) rfl))) (mvT hZ (hw _ (List.mem_of_getElem? (i := 87) rfl))) (by decide) (backOf (W := 0) (rmGV l Z a0 hw [] b5 b2 T9_.heap n0 sz F_b5_variable) hZ (hw _ (List.mem_of_getElem? (i := 89) rfl)) (hw _ (List.mem_of_getElem? (i := 64) rfl)) (by decide) (by decide)) q11_a q11_c (g := (mkF m 118 #[.val (.int i0), .val (.int i1), .val (.int i2), .val (.int (0 : Int32)), .val (.ref t0), .val (.ref b1), .val (.ref b2), .val (.int (0 : Int32)), .val (.ref b5), .val (.int (0 : Int32))] [(.ref b5)])) rfl (by rw [hml]; rfl) (Steps.refl _) (argsL := []) (rest := []) (lenOf pd__28_29Lcom_2fexample_2ffinal_marking_2ffinalmarking_2fnet_2fVariable_3b rfl) rfl (by show 2 * 0 + _ ≤ _; exact Nat.le_of_eq rfl) (hb hby at_118) (fun _ _ => ⟨rfl, e10_, (by decide : 7 + 0 ≤ _), (by decide : 30 + 0 ≤ _)⟩)
      dsimp only [Pt.U, Pt.locs, Pt.cells, Pt.slots] at X11_ l11_ y11_ z11_ st11_ hQ11_
      subst l11_ y11_ z11_
      obtain ⟨rfl, N11_q, e11_⟩ := hQ11_
      have N11_ := Fr.app N10_ N11_q
      refine Runs.tr st11_ ?_
      replace X11_ := wider X11_ (c' := 7) (s' := 30) (by decide) (by decide)
      show Runs p.tables e below _ (T11_.setTop (mkF m 121 #[.val (.int i0), .val (.int i1), .val (.int i2), .val (.int (0 : Int32)), .val (.ref t0), .val (.ref b1), .val (.ref b2), .val (.int (0 : Int32)), .val (.ref b5), .val (.int (0 : Int32))] [(.ref b2)]))
      refine Runs.st (fun t' k' => XS.aload X11_.here hx rfl (hb hby at_121) rfl rfl k') ?_
      show Runs p.tables e below _ (T11_.setTop (mkF m 123 #[.val (.int i0), .val (.int i1), .val (.int i2), .val (.int (0 : Int32)), .val (.ref t0), .val (.ref b1), .val (.ref b2), .val (.int (0 : Int32)), .val (.ref b5), .val (.int (0 : Int32))] [(.ref b2), (.ref b2)]))
      refine Runs.st (fun t' k' => Jvm.RoadKit.acmp (g := (mkF m 123 #[.val (.int i0), .val (.int i1), .val (.int i2), .val (.int (0 : Int32)), .val (.ref t0), .val (.ref b1), .val (.ref b2), .val (.int (0 : Int32)), .val (.ref b5), .val (.int (0 : Int32))] [(.ref b2), (.ref b2)])) X11_ hx rfl rfl rfl (pc0 := 123) (pc' := 126) (same := true) rfl (hb hby at_123) rfl (decide_eq_true rfl) (by decide) (by decide) k') ?_
      show Runs p.tables e below _ (T11_.setTop (mkF m 126 #[.val (.int i0), .val (.int i1), .val (.int i2), .val (.int (0 : Int32)), .val (.ref t0), .val (.ref b1), .val (.ref b2), .val (.int (0 : Int32)), .val (.ref b5), .val (.int (0 : Int32))] []))
      refine Runs.st (fun t' k' => XS.aload X11_.here hx rfl (hb hby at_126) rfl rfl k') ?_
      show Runs p.tables e below _ (T11_.setTop (mkF m 128 #[.val (.int i0), .val (.int i1), .val (.int i2), .val (.int (0 : Int32)), .val (.ref t0), .val (.ref b1), .val (.ref b2), .val (.int (0 : Int32)), .val (.ref b5), .val (.int (0 : Int32))] [(.ref b5)]))
      obtain ⟨cq12_, kq12_, q12_a, q12_b, q12_c⟩ := isOf hZ e11_ E_b5
      obtain ⟨_, _, ⟨T12_, L12_, k12_, n12_⟩, -, X12_, ⟨Lc12_, hQ12_, l12_, y12_, z12_⟩, st12_⟩ := X11_.virtualBack hx (y := (⟨"com/example/final_marking/finalmarking/net/Guard$Value", "written", "()Z"⟩ : MethodName)) (z := (⟨"com/example/final_marking/finalmarking/net/Guard$Value", "written", "()Z"⟩ : MethodName)) hown (mvT hZ (hw _ (List.mem_of_getElem? (i := 90) rfl))) (mvT hZ (hw _ (List.mem_of_getElem? (i := 91) rfl))) (notFace_of_selects (args := #[]) (mvT hZ (hw _ (List.mem_of_getElem? (i := 93) rfl)))) (mvT hZ (hw _ (List.mem_of_getElem? (i := 93) rfl))) (mvT hZ (hw _ (List.mem_of_getElem? (i := 92) rfl))) (by decide) (backOf (W := 0) (rmGW l Z a0 hw [] b5 (nar .boolean (0 : Int32)) T9_.heap n0 sz F_b5_written) hZ (hw _ (List.mem_of_getElem? (i := 94) rfl)) (hw _ (List.mem_of_getElem? (i := 64) rfl)) (by decide) (by decide)) q12_a q12_c (g := (mkF m 128 #[.val (.int i0), .val (.int i1), .val (.int i2), .val (.int (0 : Int32)), .val (.ref t0), .val (.ref b1), .val (.ref b2), .val (.int (0 : Int32)), .val (.ref b5), .val (.int (0 : Int32))] [(.ref b5)])) rfl (by rw [hml]; rfl) (Steps.refl _) (argsL := []) (rest := []) (lenOf pd__28_29Z rfl) rfl (by show 2 * 0 + _ ≤ _; exact Nat.le_of_eq rfl) (hb hby at_128) (fun _ _ => ⟨rfl, e11_, (by decide : 7 + 0 ≤ _), (by decide : 30 + 0 ≤ _)⟩)
      dsimp only [Pt.U, Pt.locs, Pt.cells, Pt.slots] at X12_ l12_ y12_ z12_ st12_ hQ12_
      subst l12_ y12_ z12_
      obtain ⟨rfl, N12_q, e12_⟩ := hQ12_
      have N12_ := Fr.app N11_ N12_q
      refine Runs.tr st12_ ?_
      replace X12_ := wider X12_ (c' := 7) (s' := 30) (by decide) (by decide)
      show Runs p.tables e below _ (T12_.setTop (mkF m 131 #[.val (.int i0), .val (.int i1), .val (.int i2), .val (.int (0 : Int32)), .val (.ref t0), .val (.ref b1), .val (.ref b2), .val (.int (0 : Int32)), .val (.ref b5), .val (.int (0 : Int32))] [(.int (nar .boolean (nar .boolean (0 : Int32))))]))
      refine Runs.st (fun t' k' => XS.iload X12_.here hx rfl (hb hby at_131) rfl k') ?_
      show Runs p.tables e below _ (T12_.setTop (mkF m 133 #[.val (.int i0), .val (.int i1), .val (.int i2), .val (.int (0 : Int32)), .val (.ref t0), .val (.ref b1), .val (.ref b2), .val (.int (0 : Int32)), .val (.ref b5), .val (.int (0 : Int32))] [(.int (0 : Int32)), (.int (nar .boolean (nar .boolean (0 : Int32))))]))
      refine Runs.st (fun t' k' => XS.icmpNo X12_.here hx rfl (hb hby at_133) rfl (teq (by decide)).2 k') ?_
      show Runs p.tables e below _ (T12_.setTop (mkF m 136 #[.val (.int i0), .val (.int i1), .val (.int i2), .val (.int (0 : Int32)), .val (.ref t0), .val (.ref b1), .val (.ref b2), .val (.int (0 : Int32)), .val (.ref b5), .val (.int (0 : Int32))] []))
      refine Runs.st (fun t' k' => XS.iconst X12_.here hx rfl (hb hby at_136) k') ?_
      show Runs p.tables e below _ (T12_.setTop (mkF m 137 #[.val (.int i0), .val (.int i1), .val (.int i2), .val (.int (0 : Int32)), .val (.ref t0), .val (.ref b1), .val (.ref b2), .val (.int (0 : Int32)), .val (.ref b5), .val (.int (0 : Int32))] [(.int (1 : Int32))]))
      refine Runs.st (fun t' k' => XS.goto X12_.here hx rfl (pc0 := 137) (pc' := 141) rfl (hb hby at_137) (by decide) (by decide) k') ?_
      show Runs p.tables e below _ (T12_.setTop (mkF m 141 #[.val (.int i0), .val (.int i1), .val (.int i2), .val (.int (0 : Int32)), .val (.ref t0), .val (.ref b1), .val (.ref b2), .val (.int (0 : Int32)), .val (.ref b5), .val (.int (0 : Int32))] [(.int (1 : Int32))]))
      refine Runs.retW (vm₁ := T7_.vm) X12_ hS (by rw [e12_]; exact hk) hlk (v := (some (.int (1 : Int32)))) (fun h => by rw [hret] at h; cases h) (by decide) (by decide) ?_ (fun fs hr => retN X12_ hx (t := .boolean) hret (by simp) (hb hby at_141) hr)
      try rw [e12_]
      exact ⟨rfl, N12_⟩
    · skip
      refine Runs.st (fun t' k' => XS.ifNo X7_.here hx rfl (hb hby at_71) rfl ((if0 _ _).trans (feq c71).1) k') ?_
      show Runs p.tables e below _ (T7_.setTop (mkF m 74 #[.val (.int i0), .val (.int i1), .val (.int i2), .val (.int (0 : Int32)), .val (.ref t0), .val (.ref b1), .val (.ref b2), .unset, .unset, .unset] []))
      refine Runs.st (fun t' k' => XS.iconst X7_.here hx rfl (hb hby at_74) k') ?_
      show Runs p.tables e below _ (T7_.setTop (mkF m 75 #[.val (.int i0), .val (.int i1), .val (.int i2), .val (.int (0 : Int32)), .val (.ref t0), .val (.ref b1), .val (.ref b2), .unset, .unset, .unset] [(.int (1 : Int32))]))
      refine Runs.st (fun t' k' => XS.goto X7_.here hx rfl (pc0 := 75) (pc' := 79) rfl (hb hby at_75) (by decide) (by decide) k') ?_
      show Runs p.tables e below _ (T7_.setTop (mkF m 79 #[.val (.int i0), .val (.int i1), .val (.int i2), .val (.int (0 : Int32)), .val (.ref t0), .val (.ref b1), .val (.ref b2), .unset, .unset, .unset] [(.int (1 : Int32))]))
      refine Runs.st (fun t' k' => XS.istore X7_.here hx rfl (hb hby at_79) rfl (l' := #[.val (.int i0), .val (.int i1), .val (.int i2), .val (.int (0 : Int32)), .val (.ref t0), .val (.ref b1), .val (.ref b2), .val (.int (1 : Int32)), .unset, .unset]) rfl k') ?_
      show Runs p.tables e below _ (T7_.setTop (mkF m 81 #[.val (.int i0), .val (.int i1), .val (.int i2), .val (.int (0 : Int32)), .val (.ref t0), .val (.ref b1), .val (.ref b2), .val (.int (1 : Int32)), .unset, .unset] []))
      obtain ⟨T13_, h13_, X13_, e13_, E13_, A13_, D13_, -, st13_⟩ := newO X7_ hx hZ hown (hw _ (List.mem_of_getElem? (i := 62) rfl)) (hw _ (List.mem_of_getElem? (i := 63) rfl)) (hw _ (List.mem_of_getElem? (i := 64) rfl)) rfl (g := (mkF m 81 #[.val (.int i0), .val (.int i1), .val (.int i2), .val (.int (0 : Int32)), .val (.ref t0), .val (.ref b1), .val (.ref b2), .val (.int (1 : Int32)), .unset, .unset] [])) rfl (hb hby at_81) (by decide) (by decide)
      refine Runs.st (st13_) ?_
      obtain ⟨b5, g13_⟩ : ∃ z, z = T7_.heap.size := ⟨_, rfl⟩
      rw [← g13_] at A13_ D13_
      try rw [← g13_]
      have g_b5 : n0 ≤ b5 := Nat.le_trans sz (Nat.le_of_eq g13_.symm)
      have sz_b5 : h0.size ≤ b5 := Nat.le_trans K.1 (Nat.le_of_eq g13_.symm)
      have ne_b2_b5 : b2 ≠ b5 := Nat.ne_of_lt (Nat.lt_of_lt_of_le E_b2.lt (Nat.le_of_eq g13_.symm))
      replace old := old.ext E13_
      replace E_b2 := E_b2.ext E13_
      replace F_b2_type := F_b2_type.ext E13_
      replace sz := Nat.le_trans sz E13_.1
      replace K := K.ext E13_
      replace hk := Nat.le_trans hk E13_.1
      have E_b5 := A13_
      have F_b5_variable : Fld Z h13_ b5 "com/example/final_marking/finalmarking/net/Guard$Value" "variable" "Lcom/example/final_marking/finalmarking/net/Variable;" .null := D13_ (Or.inr (hw _ (List.mem_of_getElem? (i := 70) rfl))) (ty := (.object "com/example/final_marking/finalmarking/net/Variable")) (by decide)
      have F_b5_written : Fld Z h13_ b5 "com/example/final_marking/finalmarking/net/Guard$Value" "written" "Z" (.int (0 : Int32)) := D13_ (Or.inr (hw _ (List.mem_of_getElem? (i := 72) rfl))) (ty := .boolean) (by decide)
      show Runs p.tables e below _ (T13_.setTop (mkF m 84 #[.val (.int i0), .val (.int i1), .val (.int i2), .val (.int (0 : Int32)), .val (.ref t0), .val (.ref b1), .val (.ref b2), .val (.int (1 : Int32)), .unset, .unset] [(.ref b5)]))
      refine Runs.st (fun t' k' => XS.dup X13_.here hx rfl (hb hby at_84) rfl rfl k') ?_
      show Runs p.tables e below _ (T13_.setTop (mkF m 85 #[.val (.int i0), .val (.int i1), .val (.int i2), .val (.int (0 : Int32)), .val (.ref t0), .val (.ref b1), .val (.ref b2), .val (.int (1 : Int32)), .unset, .unset] [(.ref b5), (.ref b5)]))
      refine Runs.st (fun t' k' => XS.aload X13_.here hx rfl (hb hby at_85) rfl rfl k') ?_
      show Runs p.tables e below _ (T13_.setTop (mkF m 87 #[.val (.int i0), .val (.int i1), .val (.int i2), .val (.int (0 : Int32)), .val (.ref t0), .val (.ref b1), .val (.ref b2), .val (.int (1 : Int32)), .unset, .unset] [(.ref b2), (.ref b5), (.ref b5)]))
      refine Runs.st (fun t' k' => XS.iload X13_.here hx rfl (hb hby at_87) rfl k') ?_
      show Runs p.tables e below _ (T13_.setTop (mkF m 89 #[.val (.int i0), .val (.int i1), .val (.int i2), .val (.int (0 : Int32)), .val (.ref t0), .val (.ref b1), .val (.ref b2), .val (.int (1 : Int32)), .unset, .unset] [(.int (1 : Int32)), (.ref b2), (.ref b5), (.ref b5)]))
      obtain ⟨_, _, ⟨T14_, L14_, k14_, n14_⟩, -, X14_, ⟨Lc14_, hQ14_, l14_, y14_, z14_⟩, st14_⟩ := X13_.specialBack hx (y := (⟨"com/example/final_marking/finalmarking/net/Guard$Value", "<init>", "(Lcom/example/final_marking/finalmarking/net/Variable;Z)V"⟩ : MethodName)) rfl hown (mvT hZ (hw _ (List.mem_of_getElem? (i := 65) rfl))) (mvT hZ (hw _ (List.mem_of_getElem? (i := 66) rfl))) (mvT hZ (hw _ (List.mem_of_getElem? (i := 67) rfl))) (by decide) (backOf (W := 1) (rmVal l Z a0 hw [] b5 b2 (1 : Int32) h13_ n0 sz E_b5 F_b5_variable F_b5_written g_b5) hZ (hw _ (List.mem_of_getElem? (i := 67) rfl)) (hw _ (List.mem_of_getElem? (i := 64) rfl)) (by decide) (by decide)) (g := (mkF m 89 #[.val (.int i0), .val (.int i1), .val (.int i2), .val (.int (0 : Int32)), .val (.ref t0), .val (.ref b1), .val (.ref b2), .val (.int (1 : Int32)), .unset, .unset] [(.int (1 : Int32)), (.ref b2), (.ref b5), (.ref b5)])) rfl (by rw [hml]; rfl) (Steps.refl _) (a := b5) (argsL := [(.ref b2), (.int (1 : Int32))]) (rest := [(.ref b5)]) (lenOf pd__28Lcom_2fexample_2ffinal_marking_2ffinalmarking_2fnet_2fVariable_3bZ_29V rfl) rfl (by show 2 * 0 + _ ≤ _; exact Nat.le_of_eq rfl) (hb hby at_89) (fun _ _ => ⟨rfl, e13_, (by decide : 7 + 0 ≤ _), (by decide : 30 + 0 ≤ _)⟩)
      dsimp only [Pt.U, Pt.locs, Pt.cells, Pt.slots] at X14_ l14_ y14_ z14_ st14_ hQ14_
      subst l14_ y14_ z14_
      obtain ⟨rfl, N14_q, K14_, E_b5, F_b5_variable, F_b5_written⟩ := hQ14_
      have N14_ := Fr.app N7_ N14_q
      refine Runs.tr st14_ ?_
      replace X14_ := wider X14_ (c' := 7) (s' := 30) (by decide) (by decide)
      replace old := old.keep K14_ (allS g_b5 all0)
      replace E_b2 := E_b2.keep K14_
      replace F_b2_type := F_b2_type.keep K14_ (ninS ne_b2_b5 nin0)
      replace sz := Nat.le_trans sz K14_.1
      replace hk := Nat.le_trans hk K14_.1
      replace K := K.trans K14_ (allS (Or.inr sz_b5) all0)
      show Runs p.tables e below _ (T14_.setTop (mkF m 92 #[.val (.int i0), .val (.int i1), .val (.int i2), .val (.int (0 : Int32)), .val (.ref t0), .val (.ref b1), .val (.ref b2), .val (.int (1 : Int32)), .unset, .unset] [(.ref b5)]))
      refine Runs.st (fun t' k' => XS.astore X14_.here hx rfl (hb hby at_92) rfl rfl (l' := #[.val (.int i0), .val (.int i1), .val (.int i2), .val (.int (0 : Int32)), .val (.ref t0), .val (.ref b1), .val (.ref b2), .val (.int (1 : Int32)), .val (.ref b5), .unset]) rfl k') ?_
      show Runs p.tables e below _ (T14_.setTop (mkF m 94 #[.val (.int i0), .val (.int i1), .val (.int i2), .val (.int (0 : Int32)), .val (.ref t0), .val (.ref b1), .val (.ref b2), .val (.int (1 : Int32)), .val (.ref b5), .unset] []))
      refine Runs.st (fun t' k' => XS.iloadN X14_.here hx rfl (hb hby at_94) rfl k') ?_
      show Runs p.tables e below _ (T14_.setTop (mkF m 95 #[.val (.int i0), .val (.int i1), .val (.int i2), .val (.int (0 : Int32)), .val (.ref t0), .val (.ref b1), .val (.ref b2), .val (.int (1 : Int32)), .val (.ref b5), .unset] [(.int (0 : Int32))]))
      refine Runs.st (fun t' k' => XS.iconst X14_.here hx rfl (hb hby at_95) k') ?_
      show Runs p.tables e below _ (T14_.setTop (mkF m 96 #[.val (.int i0), .val (.int i1), .val (.int i2), .val (.int (0 : Int32)), .val (.ref t0), .val (.ref b1), .val (.ref b2), .val (.int (1 : Int32)), .val (.ref b5), .unset] [(.int (2 : Int32)), (.int (0 : Int32))]))
      refine Runs.st (fun t' k' => XS.icmpYes X14_.here hx rfl (pc0 := 96) (pc' := 103) rfl (hb hby at_96) rfl (feq (by decide)).2 (by decide) (by decide) k') ?_
      show Runs p.tables e below _ (T14_.setTop (mkF m 103 #[.val (.int i0), .val (.int i1), .val (.int i2), .val (.int (0 : Int32)), .val (.ref t0), .val (.ref b1), .val (.ref b2), .val (.int (1 : Int32)), .val (.ref b5), .unset] []))
      refine Runs.st (fun t' k' => XS.iconst X14_.here hx rfl (hb hby at_103) k') ?_
      show Runs p.tables e below _ (T14_.setTop (mkF m 104 #[.val (.int i0), .val (.int i1), .val (.int i2), .val (.int (0 : Int32)), .val (.ref t0), .val (.ref b1), .val (.ref b2), .val (.int (1 : Int32)), .val (.ref b5), .unset] [(.int (0 : Int32))]))
      refine Runs.st (fun t' k' => XS.istore X14_.here hx rfl (hb hby at_104) rfl (l' := #[.val (.int i0), .val (.int i1), .val (.int i2), .val (.int (0 : Int32)), .val (.ref t0), .val (.ref b1), .val (.ref b2), .val (.int (1 : Int32)), .val (.ref b5), .val (.int (0 : Int32))]) rfl k') ?_
      show Runs p.tables e below _ (T14_.setTop (mkF m 106 #[.val (.int i0), .val (.int i1), .val (.int i2), .val (.int (0 : Int32)), .val (.ref t0), .val (.ref b1), .val (.ref b2), .val (.int (1 : Int32)), .val (.ref b5), .val (.int (0 : Int32))] []))
      refine Runs.st (fun t' k' => XS.aload X14_.here hx rfl (hb hby at_106) rfl rfl k') ?_
      show Runs p.tables e below _ (T14_.setTop (mkF m 108 #[.val (.int i0), .val (.int i1), .val (.int i2), .val (.int (0 : Int32)), .val (.ref t0), .val (.ref b1), .val (.ref b2), .val (.int (1 : Int32)), .val (.ref b5), .val (.int (0 : Int32))] [(.ref b5)]))
      obtain ⟨cq15_, kq15_, q15_a, q15_b, q15_c⟩ := isOf hZ rfl E_b5
      obtain ⟨_, _, ⟨T15_, L15_, k15_, n15_⟩, -, X15_, ⟨Lc15_, hQ15_, l15_, y15_, z15_⟩, st15_⟩ := X14_.virtualBack hx (y := (⟨"com/example/final_marking/finalmarking/net/Guard$Value", "isBoolean", "()Z"⟩ : MethodName)) (z := (⟨"com/example/final_marking/finalmarking/net/Guard$Value", "isBoolean", "()Z"⟩ : MethodName)) hown (mvT hZ (hw _ (List.mem_of_getElem? (i := 73) rfl))) (mvT hZ (hw _ (List.mem_of_getElem? (i := 74) rfl))) (notFace_of_selects (args := #[]) (mvT hZ (hw _ (List.mem_of_getElem? (i := 76) rfl)))) (mvT hZ (hw _ (List.mem_of_getElem? (i := 76) rfl))) (mvT hZ (hw _ (List.mem_of_getElem? (i := 75) rfl))) (by decide) (backOf (W := 0) (rmIsB l Z a0 hw [] b5 b2 t0 t2 (0 : Int32) T14_.heap n0 sz F_b5_variable E_b2 F_b2_type (S2.ext old.2) (Or.inr ⟨neq O0 O2 (by decide), rfl⟩)) hZ (hw _ (List.mem_of_getElem? (i := 77) rfl)) (hw _ (List.mem_of_getElem? (i := 64) rfl)) (by decide) (by decide)) q15_a q15_c (g := (mkF m 108 #[.val (.int i0), .val (.int i1), .val (.int i2), .val (.int (0 : Int32)), .val (.ref t0), .val (.ref b1), .val (.ref b2), .val (.int (1 : Int32)), .val (.ref b5), .val (.int (0 : Int32))] [(.ref b5)])) rfl (by rw [hml]; rfl) (Steps.refl _) (argsL := []) (rest := []) (lenOf pd__28_29Z rfl) rfl (by show 2 * 0 + _ ≤ _; exact Nat.le_of_eq rfl) (hb hby at_108) (fun _ _ => ⟨rfl, rfl, (by decide : 7 + 0 ≤ _), (by decide : 30 + 0 ≤ _)⟩)
      dsimp only [Pt.U, Pt.locs, Pt.cells, Pt.slots] at X15_ l15_ y15_ z15_ st15_ hQ15_
      subst l15_ y15_ z15_
      obtain ⟨rfl, N15_q, e15_⟩ := hQ15_
      have N15_ := Fr.app N14_ N15_q
      refine Runs.tr st15_ ?_
      replace X15_ := wider X15_ (c' := 7) (s' := 30) (by decide) (by decide)
      show Runs p.tables e below _ (T15_.setTop (mkF m 111 #[.val (.int i0), .val (.int i1), .val (.int i2), .val (.int (0 : Int32)), .val (.ref t0), .val (.ref b1), .val (.ref b2), .val (.int (1 : Int32)), .val (.ref b5), .val (.int (0 : Int32))] [(.int (0 : Int32))]))
      refine Runs.st (fun t' k' => XS.iload X15_.here hx rfl (hb hby at_111) rfl k') ?_
      show Runs p.tables e below _ (T15_.setTop (mkF m 113 #[.val (.int i0), .val (.int i1), .val (.int i2), .val (.int (0 : Int32)), .val (.ref t0), .val (.ref b1), .val (.ref b2), .val (.int (1 : Int32)), .val (.ref b5), .val (.int (0 : Int32))] [(.int (0 : Int32)), (.int (0 : Int32))]))
      refine Runs.st (fun t' k' => XS.icmpNo X15_.here hx rfl (hb hby at_113) rfl (teq rfl).2 k') ?_
      show Runs p.tables e below _ (T15_.setTop (mkF m 116 #[.val (.int i0), .val (.int i1), .val (.int i2), .val (.int (0 : Int32)), .val (.ref t0), .val (.ref b1), .val (.ref b2), .val (.int (1 : Int32)), .val (.ref b5), .val (.int (0 : Int32))] []))
      refine Runs.st (fun t' k' => XS.aload X15_.here hx rfl (hb hby at_116) rfl rfl k') ?_
      show Runs p.tables e below _ (T15_.setTop (mkF m 118 #[.val (.int i0), .val (.int i1), .val (.int i2), .val (.int (0 : Int32)), .val (.ref t0), .val (.ref b1), .val (.ref b2), .val (.int (1 : Int32)), .val (.ref b5), .val (.int (0 : Int32))] [(.ref b5)]))
      obtain ⟨cq16_, kq16_, q16_a, q16_b, q16_c⟩ := isOf hZ e15_ E_b5
      obtain ⟨_, _, ⟨T16_, L16_, k16_, n16_⟩, -, X16_, ⟨Lc16_, hQ16_, l16_, y16_, z16_⟩, st16_⟩ := X15_.virtualBack hx (y := (⟨"com/example/final_marking/finalmarking/net/Guard$Value", "variable", "()Lcom/example/final_marking/finalmarking/net/Variable;"⟩ : MethodName)) (z := (⟨"com/example/final_marking/finalmarking/net/Guard$Value", "variable", "()Lcom/example/final_marking/finalmarking/net/Variable;"⟩ : MethodName)) hown (mvT hZ (hw _ (List.mem_of_getElem? (i := 85) rfl))) (mvT hZ (hw _ (List.mem_of_getElem? (i := 86) rfl))) (notFace_of_selects (args := #[]) (mvT hZ (hw _ (List.mem_of_getElem? (i := 88) rfl)))) (mvT hZ (hw _ (List.mem_of_getElem? (i := 88) rfl))) (mvT hZ (hw _ (List.mem_of_getElem? (i := 87) rfl))) (by decide) (backOf (W := 0) (rmGV l Z a0 hw [] b5 b2 T14_.heap n0 sz F_b5_variable) hZ (hw _ (List.mem_of_getElem? (i := 89) rfl)) (hw _ (List.mem_of_getElem? (i := 64) rfl)) (by decide) (by decide)) q16_a q16_c (g := (mkF m 118 #[.val (.int i0), .val (.int i1), .val (.int i2), .val (.int (0 : Int32)), .val (.ref t0), .val (.ref b1), .val (.ref b2), .val (.int (1 : Int32)), .val (.ref b5), .val (.int (0 : Int32))] [(.ref b5)])) rfl (by rw [hml]; rfl) (Steps.refl _) (argsL := []) (rest := []) (lenOf pd__28_29Lcom_2fexample_2ffinal_marking_2ffinalmarking_2fnet_2fVariable_3b rfl) rfl (by show 2 * 0 + _ ≤ _; exact Nat.le_of_eq rfl) (hb hby at_118) (fun _ _ => ⟨rfl, e15_, (by decide : 7 + 0 ≤ _), (by decide : 30 + 0 ≤ _)⟩)
      dsimp only [Pt.U, Pt.locs, Pt.cells, Pt.slots] at X16_ l16_ y16_ z16_ st16_ hQ16_
      subst l16_ y16_ z16_
      obtain ⟨rfl, N16_q, e16_⟩ := hQ16_
      have N16_ := Fr.app N15_ N16_q
      refine Runs.tr st16_ ?_
      replace X16_ := wider X16_ (c' := 7) (s' := 30) (by decide) (by decide)
      show Runs p.tables e below _ (T16_.setTop (mkF m 121 #[.val (.int i0), .val (.int i1), .val (.int i2), .val (.int (0 : Int32)), .val (.ref t0), .val (.ref b1), .val (.ref b2), .val (.int (1 : Int32)), .val (.ref b5), .val (.int (0 : Int32))] [(.ref b2)]))
      refine Runs.st (fun t' k' => XS.aload X16_.here hx rfl (hb hby at_121) rfl rfl k') ?_
      show Runs p.tables e below _ (T16_.setTop (mkF m 123 #[.val (.int i0), .val (.int i1), .val (.int i2), .val (.int (0 : Int32)), .val (.ref t0), .val (.ref b1), .val (.ref b2), .val (.int (1 : Int32)), .val (.ref b5), .val (.int (0 : Int32))] [(.ref b2), (.ref b2)]))
      refine Runs.st (fun t' k' => Jvm.RoadKit.acmp (g := (mkF m 123 #[.val (.int i0), .val (.int i1), .val (.int i2), .val (.int (0 : Int32)), .val (.ref t0), .val (.ref b1), .val (.ref b2), .val (.int (1 : Int32)), .val (.ref b5), .val (.int (0 : Int32))] [(.ref b2), (.ref b2)])) X16_ hx rfl rfl rfl (pc0 := 123) (pc' := 126) (same := true) rfl (hb hby at_123) rfl (decide_eq_true rfl) (by decide) (by decide) k') ?_
      show Runs p.tables e below _ (T16_.setTop (mkF m 126 #[.val (.int i0), .val (.int i1), .val (.int i2), .val (.int (0 : Int32)), .val (.ref t0), .val (.ref b1), .val (.ref b2), .val (.int (1 : Int32)), .val (.ref b5), .val (.int (0 : Int32))] []))
      refine Runs.st (fun t' k' => XS.aload X16_.here hx rfl (hb hby at_126) rfl rfl k') ?_
      show Runs p.tables e below _ (T16_.setTop (mkF m 128 #[.val (.int i0), .val (.int i1), .val (.int i2), .val (.int (0 : Int32)), .val (.ref t0), .val (.ref b1), .val (.ref b2), .val (.int (1 : Int32)), .val (.ref b5), .val (.int (0 : Int32))] [(.ref b5)]))
      obtain ⟨cq17_, kq17_, q17_a, q17_b, q17_c⟩ := isOf hZ e16_ E_b5
      obtain ⟨_, _, ⟨T17_, L17_, k17_, n17_⟩, -, X17_, ⟨Lc17_, hQ17_, l17_, y17_, z17_⟩, st17_⟩ := X16_.virtualBack hx (y := (⟨"com/example/final_marking/finalmarking/net/Guard$Value", "written", "()Z"⟩ : MethodName)) (z := (⟨"com/example/final_marking/finalmarking/net/Guard$Value", "written", "()Z"⟩ : MethodName)) hown (mvT hZ (hw _ (List.mem_of_getElem? (i := 90) rfl))) (mvT hZ (hw _ (List.mem_of_getElem? (i := 91) rfl))) (notFace_of_selects (args := #[]) (mvT hZ (hw _ (List.mem_of_getElem? (i := 93) rfl)))) (mvT hZ (hw _ (List.mem_of_getElem? (i := 93) rfl))) (mvT hZ (hw _ (List.mem_of_getElem? (i := 92) rfl))) (by decide) (backOf (W := 0) (rmGW l Z a0 hw [] b5 (nar .boolean (1 : Int32)) T14_.heap n0 sz F_b5_written) hZ (hw _ (List.mem_of_getElem? (i := 94) rfl)) (hw _ (List.mem_of_getElem? (i := 64) rfl)) (by decide) (by decide)) q17_a q17_c (g := (mkF m 128 #[.val (.int i0), .val (.int i1), .val (.int i2), .val (.int (0 : Int32)), .val (.ref t0), .val (.ref b1), .val (.ref b2), .val (.int (1 : Int32)), .val (.ref b5), .val (.int (0 : Int32))] [(.ref b5)])) rfl (by rw [hml]; rfl) (Steps.refl _) (argsL := []) (rest := []) (lenOf pd__28_29Z rfl) rfl (by show 2 * 0 + _ ≤ _; exact Nat.le_of_eq rfl) (hb hby at_128) (fun _ _ => ⟨rfl, e16_, (by decide : 7 + 0 ≤ _), (by decide : 30 + 0 ≤ _)⟩)
      dsimp only [Pt.U, Pt.locs, Pt.cells, Pt.slots] at X17_ l17_ y17_ z17_ st17_ hQ17_
      subst l17_ y17_ z17_
      obtain ⟨rfl, N17_q, e17_⟩ := hQ17_
      have N17_ := Fr.app N16_ N17_q
      refine Runs.tr st17_ ?_
      replace X17_ := wider X17_ (c' := 7) (s' := 30) (by decide) (by decide)
      show Runs p.tables e below _ (T17_.setTop (mkF m 131 #[.val (.int i0), .val (.int i1), .val (.int i2), .val (.int (0 : Int32)), .val (.ref t0), .val (.ref b1), .val (.ref b2), .val (.int (1 : Int32)), .val (.ref b5), .val (.int (0 : Int32))] [(.int (nar .boolean (nar .boolean (1 : Int32))))]))
      refine Runs.st (fun t' k' => XS.iload X17_.here hx rfl (hb hby at_131) rfl k') ?_
      show Runs p.tables e below _ (T17_.setTop (mkF m 133 #[.val (.int i0), .val (.int i1), .val (.int i2), .val (.int (0 : Int32)), .val (.ref t0), .val (.ref b1), .val (.ref b2), .val (.int (1 : Int32)), .val (.ref b5), .val (.int (0 : Int32))] [(.int (1 : Int32)), (.int (nar .boolean (nar .boolean (1 : Int32))))]))
      refine Runs.st (fun t' k' => XS.icmpNo X17_.here hx rfl (hb hby at_133) rfl (teq (by decide)).2 k') ?_
      show Runs p.tables e below _ (T17_.setTop (mkF m 136 #[.val (.int i0), .val (.int i1), .val (.int i2), .val (.int (0 : Int32)), .val (.ref t0), .val (.ref b1), .val (.ref b2), .val (.int (1 : Int32)), .val (.ref b5), .val (.int (0 : Int32))] []))
      refine Runs.st (fun t' k' => XS.iconst X17_.here hx rfl (hb hby at_136) k') ?_
      show Runs p.tables e below _ (T17_.setTop (mkF m 137 #[.val (.int i0), .val (.int i1), .val (.int i2), .val (.int (0 : Int32)), .val (.ref t0), .val (.ref b1), .val (.ref b2), .val (.int (1 : Int32)), .val (.ref b5), .val (.int (0 : Int32))] [(.int (1 : Int32))]))
      refine Runs.st (fun t' k' => XS.goto X17_.here hx rfl (pc0 := 137) (pc' := 141) rfl (hb hby at_137) (by decide) (by decide) k') ?_
      show Runs p.tables e below _ (T17_.setTop (mkF m 141 #[.val (.int i0), .val (.int i1), .val (.int i2), .val (.int (0 : Int32)), .val (.ref t0), .val (.ref b1), .val (.ref b2), .val (.int (1 : Int32)), .val (.ref b5), .val (.int (0 : Int32))] [(.int (1 : Int32))]))
      refine Runs.retW (vm₁ := T7_.vm) X17_ hS (by rw [e17_]; exact hk) hlk (v := (some (.int (1 : Int32)))) (fun h => by rw [hret] at h; cases h) (by decide) (by decide) ?_ (fun fs hr => retN X17_ hx (t := .boolean) hret (by simp) (hb hby at_141) hr)
      try rw [e17_]
      exact ⟨rfl, N17_⟩
  · skip
    rw [hj]
    show Runs p.tables e below _ (s₁.setTop (mkF m 6 #[.val (.int i0), .val (.int i1), .val (.int i2), .unset, .unset, .unset, .unset, .unset, .unset, .unset] [(.int (1 : Int32))]))
    refine Runs.st (fun t' k' => XS.istoreN X0.here hx rfl (hb hby at_6) rfl (l' := #[.val (.int i0), .val (.int i1), .val (.int i2), .val (.int (1 : Int32)), .unset, .unset, .unset, .unset, .unset, .unset]) rfl k') ?_
    show Runs p.tables e below _ (s₁.setTop (mkF m 7 #[.val (.int i0), .val (.int i1), .val (.int i2), .val (.int (1 : Int32)), .unset, .unset, .unset, .unset, .unset, .unset] []))
    refine Runs.st (fun t' k' => XS.iloadN X0.here hx rfl (hb hby at_7) rfl k') ?_
    show Runs p.tables e below _ (s₁.setTop (mkF m 8 #[.val (.int i0), .val (.int i1), .val (.int i2), .val (.int (1 : Int32)), .unset, .unset, .unset, .unset, .unset, .unset] [(.int (1 : Int32))]))
    refine Runs.st (fun t' k' => XS.ifYes X0.here hx rfl (pc0 := 8) (pc' := 17) rfl (hb hby at_8) rfl ((if0 _ _).trans (feq (by decide)).2) (by decide) (by decide) k') ?_
    show Runs p.tables e below _ (s₁.setTop (mkF m 17 #[.val (.int i0), .val (.int i1), .val (.int i2), .val (.int (1 : Int32)), .unset, .unset, .unset, .unset, .unset, .unset] []))
    refine Runs.st (fun t' k' => XS.iloadN X0.here hx rfl (hb hby at_17) rfl k') ?_
    show Runs p.tables e below _ (s₁.setTop (mkF m 18 #[.val (.int i0), .val (.int i1), .val (.int i2), .val (.int (1 : Int32)), .unset, .unset, .unset, .unset, .unset, .unset] [(.int (1 : Int32))]))
    refine Runs.st (fun t' k' => XS.iconst X0.here hx rfl (hb hby at_18) k') ?_
    show Runs p.tables e below _ (s₁.setTop (mkF m 19 #[.val (.int i0), .val (.int i1), .val (.int i2), .val (.int (1 : Int32)), .unset, .unset, .unset, .unset, .unset, .unset] [(.int (1 : Int32)), (.int (1 : Int32))]))
    refine Runs.st (fun t' k' => XS.icmpNo X0.here hx rfl (hb hby at_19) rfl (teq rfl).2 k') ?_
    show Runs p.tables e below _ (s₁.setTop (mkF m 22 #[.val (.int i0), .val (.int i1), .val (.int i2), .val (.int (1 : Int32)), .unset, .unset, .unset, .unset, .unset, .unset] []))
    obtain ⟨T18_, X18_, e18_, st18_⟩ := getS2 X0 hx hZ hown (host := "") (Or.inl (hw _ (List.mem_of_getElem? (i := 95) rfl))) Via.refl e0 (S1.ext old.2) (g := (mkF m 22 #[.val (.int i0), .val (.int i1), .val (.int i2), .val (.int (1 : Int32)), .unset, .unset, .unset, .unset, .unset, .unset] [])) rfl (hb hby at_22)
    refine Runs.st (st18_) ?_
    show Runs p.tables e below _ (T18_.setTop (mkF m 25 #[.val (.int i0), .val (.int i1), .val (.int i2), .val (.int (1 : Int32)), .unset, .unset, .unset, .unset, .unset, .unset] [(.ref t1)]))
    refine Runs.st (fun t' k' => XS.goto X18_.here hx rfl (pc0 := 25) (pc' := 31) rfl (hb hby at_25) (by decide) (by decide) k') ?_
    show Runs p.tables e below _ (T18_.setTop (mkF m 31 #[.val (.int i0), .val (.int i1), .val (.int i2), .val (.int (1 : Int32)), .unset, .unset, .unset, .unset, .unset, .unset] [(.ref t1)]))
    refine Runs.st (fun t' k' => XS.astore X18_.here hx rfl (hb hby at_31) rfl rfl (l' := #[.val (.int i0), .val (.int i1), .val (.int i2), .val (.int (1 : Int32)), .val (.ref t1), .unset, .unset, .unset, .unset, .unset]) rfl k') ?_
    show Runs p.tables e below _ (T18_.setTop (mkF m 33 #[.val (.int i0), .val (.int i1), .val (.int i2), .val (.int (1 : Int32)), .val (.ref t1), .unset, .unset, .unset, .unset, .unset] []))
    refine Runs.st (fun t' k' => XS.iconst X18_.here hx rfl (hb hby at_33) k') ?_
    show Runs p.tables e below _ (T18_.setTop (mkF m 34 #[.val (.int i0), .val (.int i1), .val (.int i2), .val (.int (1 : Int32)), .val (.ref t1), .unset, .unset, .unset, .unset, .unset] [(.int (1 : Int32))]))
    obtain ⟨T19_, h19_, k19_, X19_, e19_, E19_, A19_, st19_⟩ := newP X18_ hx hZ (hw _ (List.mem_of_getElem? (i := 4) rfl)) e18_ (g := (mkF m 34 #[.val (.int i0), .val (.int i1), .val (.int i2), .val (.int (1 : Int32)), .val (.ref t1), .unset, .unset, .unset, .unset, .unset] [(.int (1 : Int32))])) rfl (hb hby at_34) rfl (by decide) (cap := 1) (by decide) (by decide) (by decide) (by decide)
    refine Runs.st (st19_) ?_
    obtain ⟨b1, g19_⟩ : ∃ z, z = h0.size := ⟨_, rfl⟩
    rw [← g19_] at A19_
    try rw [← g19_]
    have g_b1 : n0 ≤ b1 := Nat.le_trans sz (Nat.le_of_eq g19_.symm)
    have sz_b1 : h0.size ≤ b1 := Nat.le_trans K.1 (Nat.le_of_eq g19_.symm)
    replace old := old.ext E19_
    replace sz := Nat.le_trans sz E19_.1
    replace K := K.ext E19_
    replace hk := Nat.le_trans hk E19_.1
    have V_b1 : Arv Z h19_ b1 k19_ .char (1 : Int32) [(.int (0 : Int32))] (.int (0 : Int32)) := (Arv.new A19_ (by decide)).pad (pad_rep [] (.int (0 : Int32)) 1)
    show Runs p.tables e below _ (T19_.setTop (mkF m 36 #[.val (.int i0), .val (.int i1), .val (.int i2), .val (.int (1 : Int32)), .val (.ref t1), .unset, .unset, .unset, .unset, .unset] [(.ref b1)]))
    refine Runs.st (fun t' k' => XS.astore X19_.here hx rfl (hb hby at_36) rfl rfl (l' := #[.val (.int i0), .val (.int i1), .val (.int i2), .val (.int (1 : Int32)), .val (.ref t1), .val (.ref b1), .unset, .unset, .unset, .unset]) rfl k') ?_
    show Runs p.tables e below _ (T19_.setTop (mkF m 38 #[.val (.int i0), .val (.int i1), .val (.int i2), .val (.int (1 : Int32)), .val (.ref t1), .val (.ref b1), .unset, .unset, .unset, .unset] []))
    refine Runs.st (fun t' k' => XS.aload X19_.here hx rfl (hb hby at_38) rfl rfl k') ?_
    show Runs p.tables e below _ (T19_.setTop (mkF m 40 #[.val (.int i0), .val (.int i1), .val (.int i2), .val (.int (1 : Int32)), .val (.ref t1), .val (.ref b1), .unset, .unset, .unset, .unset] [(.ref b1)]))
    refine Runs.st (fun t' k' => XS.iconst X19_.here hx rfl (hb hby at_40) k') ?_
    show Runs p.tables e below _ (T19_.setTop (mkF m 41 #[.val (.int i0), .val (.int i1), .val (.int i2), .val (.int (1 : Int32)), .val (.ref t1), .val (.ref b1), .unset, .unset, .unset, .unset] [(.int (0 : Int32)), (.ref b1)]))
    refine Runs.st (fun t' k' => XS.iloadN X19_.here hx rfl (hb hby at_41) rfl k') ?_
    show Runs p.tables e below _ (T19_.setTop (mkF m 42 #[.val (.int i0), .val (.int i1), .val (.int i2), .val (.int (1 : Int32)), .val (.ref t1), .val (.ref b1), .unset, .unset, .unset, .unset] [(.int i1), (.int (0 : Int32)), (.ref b1)]))
    refine Runs.st (fun t' k' => XS.sipush X19_.here hx rfl (hb hby at_42) k') ?_
    show Runs p.tables e below _ (T19_.setTop (mkF m 45 #[.val (.int i0), .val (.int i1), .val (.int i2), .val (.int (1 : Int32)), .val (.ref t1), .val (.ref b1), .unset, .unset, .unset, .unset] [(.int (255 : Int32)), (.int i1), (.int (0 : Int32)), (.ref b1)]))
    refine Runs.st (fun t' k' => XS.iand X19_.here hx rfl (hb hby at_45) rfl k') ?_
    show Runs p.tables e below _ (T19_.setTop (mkF m 46 #[.val (.int i0), .val (.int i1), .val (.int i2), .val (.int (1 : Int32)), .val (.ref t1), .val (.ref b1), .unset, .unset, .unset, .unset] [(.int (i1 &&& (255 : Int32))), (.int (0 : Int32)), (.ref b1)]))
    refine Runs.st (fun t' k' => XS.i2c X19_.here hx rfl (hb hby at_46) rfl k') ?_
    show Runs p.tables e below _ (T19_.setTop (mkF m 47 #[.val (.int i0), .val (.int i1), .val (.int i2), .val (.int (1 : Int32)), .val (.ref t1), .val (.ref b1), .unset, .unset, .unset, .unset] [(.int ((i1 &&& (255 : Int32)).toUInt32.toUInt16.toUInt32.toInt32)), (.int (0 : Int32)), (.ref b1)]))
    obtain ⟨cl20_, Ar20_, q20_, S20_, M20_, Ha20_, G20_⟩ := V_b1
    have hin20_ : ¬ ((0 : Int32) < 0 ∨ cl20_.slots.size ≤ ((0 : Int32)).toNatClampNeg) := inb_of S20_ ⟨by decide, by decide⟩
    obtain ⟨T20_, h20_, X20_, e20_, W20_, st20_⟩ := stC X19_ hx hZ e19_ Ar20_ (j := (0 : Int32)) hin20_ (g := (mkF m 47 #[.val (.int i0), .val (.int i1), .val (.int i2), .val (.int (1 : Int32)), .val (.ref t1), .val (.ref b1), .unset, .unset, .unset, .unset] [(.int ((i1 &&& (255 : Int32)).toUInt32.toUInt16.toUInt32.toInt32)), (.int (0 : Int32)), (.ref b1)])) rfl rfl (hb hby at_47)
    refine Runs.st (st20_) ?_
    have V_b1 := Arv.set Ar20_ q20_ S20_ M20_ Ha20_ G20_ (fits_nar_char _) W20_ 0 rfl (Nat.le_of_ble_eq_true rfl)
    replace old := old.wr W20_ g_b1
    replace sz := Nat.le_trans sz (Keep.of_wr W20_).1
    replace hk := Nat.le_trans hk (Keep.of_wr W20_).1
    have N20_ := Fr.snoc X20_ N0 g_b1
    replace K := K.wr W20_ (Or.inr sz_b1)
    show Runs p.tables e below _ (T20_.setTop (mkF m 48 #[.val (.int i0), .val (.int i1), .val (.int i2), .val (.int (1 : Int32)), .val (.ref t1), .val (.ref b1), .unset, .unset, .unset, .unset] []))
    obtain ⟨T21_, h21_, X21_, e21_, E21_, A21_, D21_, -, st21_⟩ := newO X20_ hx hZ hown (hw _ (List.mem_of_getElem? (i := 5) rfl)) (hw _ (List.mem_of_getElem? (i := 6) rfl)) (hw _ (List.mem_of_getElem? (i := 7) rfl)) e20_ (g := (mkF m 48 #[.val (.int i0), .val (.int i1), .val (.int i2), .val (.int (1 : Int32)), .val (.ref t1), .val (.ref b1), .unset, .unset, .unset, .unset] [])) rfl (hb hby at_48) (by decide) (by decide)
    refine Runs.st (st21_) ?_
    obtain ⟨b2, g21_⟩ : ∃ z, z = h20_.size := ⟨_, rfl⟩
    rw [← g21_] at A21_ D21_
    try rw [← g21_]
    have g_b2 : n0 ≤ b2 := Nat.le_trans sz (Nat.le_of_eq g21_.symm)
    have sz_b2 : h0.size ≤ b2 := Nat.le_trans K.1 (Nat.le_of_eq g21_.symm)
    have ne_b1_b2 : b1 ≠ b2 := Nat.ne_of_lt (Nat.lt_of_lt_of_le V_b1.lt (Nat.le_of_eq g21_.symm))
    replace old := old.ext E21_
    replace V_b1 := V_b1.ext E21_
    replace sz := Nat.le_trans sz E21_.1
    replace K := K.ext E21_
    replace hk := Nat.le_trans hk E21_.1
    have E_b2 := A21_
    have F_b2_name : Fld Z h21_ b2 "com/example/final_marking/finalmarking/net/Variable" "name" "Ljava/lang/String;" .null := D21_ (Or.inr (hw _ (List.mem_of_getElem? (i := 59) rfl))) (ty := (.object "java/lang/String")) (by decide)
    have F_b2_type : Fld Z h21_ b2 "com/example/final_marking/finalmarking/net/Variable" "type" "Lcom/example/final_marking/finalmarking/net/Variable$Type;" .null := D21_ (Or.inr (hw _ (List.mem_of_getElem? (i := 61) rfl))) (ty := (.object "com/example/final_marking/finalmarking/net/Variable$Type")) (by decide)
    show Runs p.tables e below _ (T21_.setTop (mkF m 51 #[.val (.int i0), .val (.int i1), .val (.int i2), .val (.int (1 : Int32)), .val (.ref t1), .val (.ref b1), .unset, .unset, .unset, .unset] [(.ref b2)]))
    refine Runs.st (fun t' k' => XS.dup X21_.here hx rfl (hb hby at_51) rfl rfl k') ?_
    show Runs p.tables e below _ (T21_.setTop (mkF m 52 #[.val (.int i0), .val (.int i1), .val (.int i2), .val (.int (1 : Int32)), .val (.ref t1), .val (.ref b1), .unset, .unset, .unset, .unset] [(.ref b2), (.ref b2)]))
    obtain ⟨T22_, h22_, X22_, e22_, E22_, A22_, D22_, -, st22_⟩ := newO X21_ hx hZ hown (hw _ (List.mem_of_getElem? (i := 8) rfl)) (hw _ (List.mem_of_getElem? (i := 9) rfl)) (hw _ (List.mem_of_getElem? (i := 10) rfl)) e21_ (g := (mkF m 52 #[.val (.int i0), .val (.int i1), .val (.int i2), .val (.int (1 : Int32)), .val (.ref t1), .val (.ref b1), .unset, .unset, .unset, .unset] [(.ref b2), (.ref b2)])) rfl (hb hby at_52) (by decide) (by decide)
    refine Runs.st (st22_) ?_
    obtain ⟨b3, g22_⟩ : ∃ z, z = h21_.size := ⟨_, rfl⟩
    rw [← g22_] at A22_ D22_
    try rw [← g22_]
    have g_b3 : n0 ≤ b3 := Nat.le_trans sz (Nat.le_of_eq g22_.symm)
    have sz_b3 : h0.size ≤ b3 := Nat.le_trans K.1 (Nat.le_of_eq g22_.symm)
    have ne_b1_b3 : b1 ≠ b3 := Nat.ne_of_lt (Nat.lt_of_lt_of_le V_b1.lt (Nat.le_of_eq g22_.symm))
    have ne_b2_b3 : b2 ≠ b3 := Nat.ne_of_lt (Nat.lt_of_lt_of_le E_b2.lt (Nat.le_of_eq g22_.symm))
    replace old := old.ext E22_
    replace V_b1 := V_b1.ext E22_
    replace E_b2 := E_b2.ext E22_
    replace F_b2_name := F_b2_name.ext E22_
    replace F_b2_type := F_b2_type.ext E22_
    replace sz := Nat.le_trans sz E22_.1
    replace K := K.ext E22_
    replace hk := Nat.le_trans hk E22_.1
    have E_b3 := A22_
    have F_b3_coder : Fld Z h22_ b3 "java/lang/String" "coder" "B" (.int (0 : Int32)) := D22_ (Or.inr (hw _ (List.mem_of_getElem? (i := 34) rfl))) (ty := .byte) (by decide)
    have F_b3_value : Fld Z h22_ b3 "java/lang/String" "value" "[B" .null := D22_ (Or.inr (hw _ (List.mem_of_getElem? (i := 36) rfl))) (ty := (.array .byte)) (by decide)
    show Runs p.tables e below _ (T22_.setTop (mkF m 55 #[.val (.int i0), .val (.int i1), .val (.int i2), .val (.int (1 : Int32)), .val (.ref t1), .val (.ref b1), .unset, .unset, .unset, .unset] [(.ref b3), (.ref b2), (.ref b2)]))
    refine Runs.st (fun t' k' => XS.dup X22_.here hx rfl (hb hby at_55) rfl rfl k') ?_
    show Runs p.tables e below _ (T22_.setTop (mkF m 56 #[.val (.int i0), .val (.int i1), .val (.int i2), .val (.int (1 : Int32)), .val (.ref t1), .val (.ref b1), .unset, .unset, .unset, .unset] [(.ref b3), (.ref b3), (.ref b2), (.ref b2)]))
    refine Runs.st (fun t' k' => XS.aload X22_.here hx rfl (hb hby at_56) rfl rfl k') ?_
    show Runs p.tables e below _ (T22_.setTop (mkF m 58 #[.val (.int i0), .val (.int i1), .val (.int i2), .val (.int (1 : Int32)), .val (.ref t1), .val (.ref b1), .unset, .unset, .unset, .unset] [(.ref b1), (.ref b3), (.ref b3), (.ref b2), (.ref b2)]))
    have kz23_ := K.1
    have gz23_ := sz
    have lt23__b1 := V_b1.lt
    have lt23__b2 := E_b2.lt
    have lt23__b3 := E_b3.lt
    obtain ⟨_, _, ⟨T23_, L23_, k23_, n23_⟩, -, X23_, ⟨Lc23_, hQ23_, l23_, y23_, z23_⟩, st23_⟩ := X22_.specialBack hx (y := (⟨"java/lang/String", "<init>", "([C)V"⟩ : MethodName)) rfl hown (mvT hZ (hw _ (List.mem_of_getElem? (i := 11) rfl))) (mvT hZ (hw _ (List.mem_of_getElem? (i := 12) rfl))) (mvT hZ (hw _ (List.mem_of_getElem? (i := 13) rfl))) (by decide) (backOf (W := 3) (rmIC1 l Z a0 hw [] b3 b1 (nar .char ((i1 &&& (255 : Int32)).toUInt32.toUInt16.toUInt32.toInt32)) _ zc h22_ n0 sz E_b3 F_b3_value F_b3_coder g_b3 V_b1 (Sc.ext old.2) hzc ul) hZ (hw _ (List.mem_of_getElem? (i := 13) rfl)) (hw _ (List.mem_of_getElem? (i := 10) rfl)) (by decide) (by decide)) (g := (mkF m 58 #[.val (.int i0), .val (.int i1), .val (.int i2), .val (.int (1 : Int32)), .val (.ref t1), .val (.ref b1), .unset, .unset, .unset, .unset] [(.ref b1), (.ref b3), (.ref b3), (.ref b2), (.ref b2)])) rfl (by rw [hml]; rfl) (Steps.refl _) (a := b3) (argsL := [(.ref b1)]) (rest := [(.ref b3), (.ref b2), (.ref b2)]) (lenOf pd__28_5bC_29V rfl) rfl (by show 2 * 0 + _ ≤ _; exact Nat.le_of_eq rfl) (hb hby at_58) (fun _ _ => ⟨rfl, e22_, (by decide : 3 + 1 ≤ _), (by decide : 7 + 1 ≤ _)⟩)
    dsimp only [Pt.U, Pt.locs, Pt.cells, Pt.slots] at X23_ l23_ y23_ z23_ st23_ hQ23_
    subst l23_ y23_ z23_
    obtain ⟨rfl, N23_q, K23_, E_b3, F_b3_coder, b4, kb4, szb, F_b3_value, V_b4⟩ := hQ23_
    have N23_ := Fr.app N20_ N23_q
    refine Runs.tr st23_ ?_
    replace X23_ := wider X23_ (c' := 4) (s' := 8) (by decide) (by decide)
    replace old := old.keep K23_ (allS g_b3 all0)
    replace V_b1 := V_b1.keep K23_ (ninS ne_b1_b3 nin0)
    replace E_b2 := E_b2.keep K23_
    replace F_b2_name := F_b2_name.keep K23_ (ninS ne_b2_b3 nin0)
    replace F_b2_type := F_b2_type.keep K23_ (ninS ne_b2_b3 nin0)
    replace sz := Nat.le_trans sz K23_.1
    replace hk := Nat.le_trans hk K23_.1
    replace K := K.trans K23_ (allS (Or.inr sz_b3) all0)
    have sz_b4 : h0.size ≤ b4 := Nat.le_trans kz23_ szb
    have g_b4 : n0 ≤ b4 := Nat.le_trans gz23_ szb
    have ne_b1_b4 : b1 ≠ b4 := Nat.ne_of_lt (Nat.lt_of_lt_of_le lt23__b1 szb)
    have ne_b2_b4 : b2 ≠ b4 := Nat.ne_of_lt (Nat.lt_of_lt_of_le lt23__b2 szb)
    have ne_b3_b4 : b3 ≠ b4 := Nat.ne_of_lt (Nat.lt_of_lt_of_le lt23__b3 szb)
    show Runs p.tables e below _ (T23_.setTop (mkF m 61 #[.val (.int i0), .val (.int i1), .val (.int i2), .val (.int (1 : Int32)), .val (.ref t1), .val (.ref b1), .unset, .unset, .unset, .unset] [(.ref b3), (.ref b2), (.ref b2)]))
    refine Runs.st (fun t' k' => XS.aload X23_.here hx rfl (hb hby at_61) rfl rfl k') ?_
    show Runs p.tables e below _ (T23_.setTop (mkF m 63 #[.val (.int i0), .val (.int i1), .val (.int i2), .val (.int (1 : Int32)), .val (.ref t1), .val (.ref b1), .unset, .unset, .unset, .unset] [(.ref t1), (.ref b3), (.ref b2), (.ref b2)]))
    obtain ⟨_, _, ⟨T24_, L24_, k24_, n24_⟩, -, X24_, hS24_, hg24_, ⟨Lc24_, hQ24_, l24_, y24_, z24_⟩, st24_⟩ := (show Stand p l e room_1 (s.setVm s.vm) m _ below meth c _ _ _ _ from X23_).specialBackS hx (y := (⟨"com/example/final_marking/finalmarking/net/Variable", "<init>", "(Ljava/lang/String;Lcom/example/final_marking/finalmarking/net/Variable$Type;)V"⟩ : MethodName)) rfl hown (mvT hZ (hw _ (List.mem_of_getElem? (i := 37) rfl))) (mvT hZ (hw _ (List.mem_of_getElem? (i := 38) rfl))) (mvT hZ (hw _ (List.mem_of_getElem? (i := 39) rfl))) (by decide) (backOfS (W := 1) (rmVar l Z a0 hw [] b2 b3 t1 b4 _ _ T23_.heap n0 sz E_b2 F_b2_name F_b2_type g_b2 E_b3 F_b3_value V_b4 (Ne.symm ne_b2_b3) (Ne.symm ne_b2_b4)) hZ (hw _ (List.mem_of_getElem? (i := 39) rfl)) (hw _ (List.mem_of_getElem? (i := 7) rfl)) (by decide) (by decide)) (g := (mkF m 63 #[.val (.int i0), .val (.int i1), .val (.int i2), .val (.int (1 : Int32)), .val (.ref t1), .val (.ref b1), .unset, .unset, .unset, .unset] [(.ref t1), (.ref b3), (.ref b2), (.ref b2)])) rfl (by rw [hml]; rfl) (Steps.refl _) (a := b2) (argsL := [(.ref b3), (.ref t1)]) (rest := [(.ref b2)]) (lenOf pd__28Ljava_2flang_2fString_3bLcom_2fexample_2ffinal_marking_2ffinalmarking_2fnet_2fVariable_24Type_3b_29V rfl) rfl (by show 2 * 0 + _ ≤ _; exact Nat.le_of_eq rfl) (hb hby at_63) (fun _ _ => ⟨rfl, rfl, (by decide : 4 + 2 ≤ _), (by decide : 8 + 20 ≤ _)⟩)
    dsimp only [Pt.U] at hS24_ hg24_
    dsimp only [Pt.U, Pt.locs, Pt.cells, Pt.slots] at X24_ l24_ y24_ z24_ st24_ hQ24_
    subst l24_ y24_ z24_
    obtain ⟨rfl, N24_q, K24_, E_b2, F_b2_name, F_b2_type⟩ := hQ24_
    have N24_ := Fr.app N23_ N24_q
    replace hS := foldS (vm0 := s.vm) (T := T23_) hS hk hS24_ hg24_
    have hk := Nat.le_refl T24_.heap.size
    replace hZ : Z.Warmed39 (s.setVm T24_.vm).vm := State.Warmed39.trans (t := s) hZ0 hS.1
    replace hown : (s.setVm T24_.vm).vm.findClass "com/example/final_marking/finalmarking/net/ValueIsBooleanPinLaw" = some m.cls := by rw [show (s.setVm T24_.vm).vm = T24_.vm from rfl, hS.1.alike.findClass]; exact hown0
    refine Runs.tr st24_ ?_
    replace X24_ := wider X24_ (c' := 6) (s' := 28) (by decide) (by decide)
    replace old := old.keep K24_ (allS g_b2 all0)
    replace V_b1 := V_b1.keep K24_ (ninS ne_b1_b2 nin0)
    replace E_b3 := E_b3.keep K24_
    replace F_b3_value := F_b3_value.keep K24_ (ninS (Ne.symm ne_b2_b3) nin0)
    replace V_b4 := V_b4.keep K24_ (ninS (Ne.symm ne_b2_b4) nin0)
    replace sz := Nat.le_trans sz K24_.1
    replace K := K.trans K24_ (allS (Or.inr sz_b2) all0)
    show Runs p.tables e below _ (T24_.setTop (mkF m 66 #[.val (.int i0), .val (.int i1), .val (.int i2), .val (.int (1 : Int32)), .val (.ref t1), .val (.ref b1), .unset, .unset, .unset, .unset] [(.ref b2)]))
    refine Runs.st (fun t' k' => XS.astore X24_.here hx rfl (hb hby at_66) rfl rfl (l' := #[.val (.int i0), .val (.int i1), .val (.int i2), .val (.int (1 : Int32)), .val (.ref t1), .val (.ref b1), .val (.ref b2), .unset, .unset, .unset]) rfl k') ?_
    show Runs p.tables e below _ (T24_.setTop (mkF m 68 #[.val (.int i0), .val (.int i1), .val (.int i2), .val (.int (1 : Int32)), .val (.ref t1), .val (.ref b1), .val (.ref b2), .unset, .unset, .unset] []))
    refine Runs.st (fun t' k' => XS.iloadN X24_.here hx rfl (hb hby at_68) rfl k') ?_
    show Runs p.tables e below _ (T24_.setTop (mkF m 69 #[.val (.int i0), .val (.int i1), .val (.int i2), .val (.int (1 : Int32)), .val (.ref t1), .val (.ref b1), .val (.ref b2), .unset, .unset, .unset] [(.int i2)]))
    refine Runs.st (fun t' k' => XS.iconst X24_.here hx rfl (hb hby at_69) k') ?_
    show Runs p.tables e below _ (T24_.setTop (mkF m 70 #[.val (.int i0), .val (.int i1), .val (.int i2), .val (.int (1 : Int32)), .val (.ref t1), .val (.ref b1), .val (.ref b2), .unset, .unset, .unset] [(.int (1 : Int32)), (.int i2)]))
    refine Runs.st (fun t' k' => XS.iand X24_.here hx rfl (hb hby at_70) rfl k') ?_
    show Runs p.tables e below _ (T24_.setTop (mkF m 71 #[.val (.int i0), .val (.int i1), .val (.int i2), .val (.int (1 : Int32)), .val (.ref t1), .val (.ref b1), .val (.ref b2), .unset, .unset, .unset] [(.int (i2 &&& (1 : Int32)))]))
    by_cases c71 : (i2 &&& (1 : Int32)) = (0 : Int32)
    · skip
      refine Runs.st (fun t' k' => XS.ifYes X24_.here hx rfl (pc0 := 71) (pc' := 78) rfl (hb hby at_71) rfl ((if0 _ _).trans (teq c71).1) (by decide) (by decide) k') ?_
      show Runs p.tables e below _ (T24_.setTop (mkF m 78 #[.val (.int i0), .val (.int i1), .val (.int i2), .val (.int (1 : Int32)), .val (.ref t1), .val (.ref b1), .val (.ref b2), .unset, .unset, .unset] []))
      refine Runs.st (fun t' k' => XS.iconst X24_.here hx rfl (hb hby at_78) k') ?_
      show Runs p.tables e below _ (T24_.setTop (mkF m 79 #[.val (.int i0), .val (.int i1), .val (.int i2), .val (.int (1 : Int32)), .val (.ref t1), .val (.ref b1), .val (.ref b2), .unset, .unset, .unset] [(.int (0 : Int32))]))
      refine Runs.st (fun t' k' => XS.istore X24_.here hx rfl (hb hby at_79) rfl (l' := #[.val (.int i0), .val (.int i1), .val (.int i2), .val (.int (1 : Int32)), .val (.ref t1), .val (.ref b1), .val (.ref b2), .val (.int (0 : Int32)), .unset, .unset]) rfl k') ?_
      show Runs p.tables e below _ (T24_.setTop (mkF m 81 #[.val (.int i0), .val (.int i1), .val (.int i2), .val (.int (1 : Int32)), .val (.ref t1), .val (.ref b1), .val (.ref b2), .val (.int (0 : Int32)), .unset, .unset] []))
      obtain ⟨T25_, h25_, X25_, e25_, E25_, A25_, D25_, -, st25_⟩ := newO X24_ hx hZ hown (hw _ (List.mem_of_getElem? (i := 62) rfl)) (hw _ (List.mem_of_getElem? (i := 63) rfl)) (hw _ (List.mem_of_getElem? (i := 64) rfl)) rfl (g := (mkF m 81 #[.val (.int i0), .val (.int i1), .val (.int i2), .val (.int (1 : Int32)), .val (.ref t1), .val (.ref b1), .val (.ref b2), .val (.int (0 : Int32)), .unset, .unset] [])) rfl (hb hby at_81) (by decide) (by decide)
      refine Runs.st (st25_) ?_
      obtain ⟨b5, g25_⟩ : ∃ z, z = T24_.heap.size := ⟨_, rfl⟩
      rw [← g25_] at A25_ D25_
      try rw [← g25_]
      have g_b5 : n0 ≤ b5 := Nat.le_trans sz (Nat.le_of_eq g25_.symm)
      have sz_b5 : h0.size ≤ b5 := Nat.le_trans K.1 (Nat.le_of_eq g25_.symm)
      have ne_b2_b5 : b2 ≠ b5 := Nat.ne_of_lt (Nat.lt_of_lt_of_le E_b2.lt (Nat.le_of_eq g25_.symm))
      replace old := old.ext E25_
      replace E_b2 := E_b2.ext E25_
      replace F_b2_type := F_b2_type.ext E25_
      replace sz := Nat.le_trans sz E25_.1
      replace K := K.ext E25_
      replace hk := Nat.le_trans hk E25_.1
      have E_b5 := A25_
      have F_b5_variable : Fld Z h25_ b5 "com/example/final_marking/finalmarking/net/Guard$Value" "variable" "Lcom/example/final_marking/finalmarking/net/Variable;" .null := D25_ (Or.inr (hw _ (List.mem_of_getElem? (i := 70) rfl))) (ty := (.object "com/example/final_marking/finalmarking/net/Variable")) (by decide)
      have F_b5_written : Fld Z h25_ b5 "com/example/final_marking/finalmarking/net/Guard$Value" "written" "Z" (.int (0 : Int32)) := D25_ (Or.inr (hw _ (List.mem_of_getElem? (i := 72) rfl))) (ty := .boolean) (by decide)
      show Runs p.tables e below _ (T25_.setTop (mkF m 84 #[.val (.int i0), .val (.int i1), .val (.int i2), .val (.int (1 : Int32)), .val (.ref t1), .val (.ref b1), .val (.ref b2), .val (.int (0 : Int32)), .unset, .unset] [(.ref b5)]))
      refine Runs.st (fun t' k' => XS.dup X25_.here hx rfl (hb hby at_84) rfl rfl k') ?_
      show Runs p.tables e below _ (T25_.setTop (mkF m 85 #[.val (.int i0), .val (.int i1), .val (.int i2), .val (.int (1 : Int32)), .val (.ref t1), .val (.ref b1), .val (.ref b2), .val (.int (0 : Int32)), .unset, .unset] [(.ref b5), (.ref b5)]))
      refine Runs.st (fun t' k' => XS.aload X25_.here hx rfl (hb hby at_85) rfl rfl k') ?_
      show Runs p.tables e below _ (T25_.setTop (mkF m 87 #[.val (.int i0), .val (.int i1), .val (.int i2), .val (.int (1 : Int32)), .val (.ref t1), .val (.ref b1), .val (.ref b2), .val (.int (0 : Int32)), .unset, .unset] [(.ref b2), (.ref b5), (.ref b5)]))
      refine Runs.st (fun t' k' => XS.iload X25_.here hx rfl (hb hby at_87) rfl k') ?_
      show Runs p.tables e below _ (T25_.setTop (mkF m 89 #[.val (.int i0), .val (.int i1), .val (.int i2), .val (.int (1 : Int32)), .val (.ref t1), .val (.ref b1), .val (.ref b2), .val (.int (0 : Int32)), .unset, .unset] [(.int (0 : Int32)), (.ref b2), (.ref b5), (.ref b5)]))
      obtain ⟨_, _, ⟨T26_, L26_, k26_, n26_⟩, -, X26_, ⟨Lc26_, hQ26_, l26_, y26_, z26_⟩, st26_⟩ := X25_.specialBack hx (y := (⟨"com/example/final_marking/finalmarking/net/Guard$Value", "<init>", "(Lcom/example/final_marking/finalmarking/net/Variable;Z)V"⟩ : MethodName)) rfl hown (mvT hZ (hw _ (List.mem_of_getElem? (i := 65) rfl))) (mvT hZ (hw _ (List.mem_of_getElem? (i := 66) rfl))) (mvT hZ (hw _ (List.mem_of_getElem? (i := 67) rfl))) (by decide) (backOf (W := 1) (rmVal l Z a0 hw [] b5 b2 (0 : Int32) h25_ n0 sz E_b5 F_b5_variable F_b5_written g_b5) hZ (hw _ (List.mem_of_getElem? (i := 67) rfl)) (hw _ (List.mem_of_getElem? (i := 64) rfl)) (by decide) (by decide)) (g := (mkF m 89 #[.val (.int i0), .val (.int i1), .val (.int i2), .val (.int (1 : Int32)), .val (.ref t1), .val (.ref b1), .val (.ref b2), .val (.int (0 : Int32)), .unset, .unset] [(.int (0 : Int32)), (.ref b2), (.ref b5), (.ref b5)])) rfl (by rw [hml]; rfl) (Steps.refl _) (a := b5) (argsL := [(.ref b2), (.int (0 : Int32))]) (rest := [(.ref b5)]) (lenOf pd__28Lcom_2fexample_2ffinal_marking_2ffinalmarking_2fnet_2fVariable_3bZ_29V rfl) rfl (by show 2 * 0 + _ ≤ _; exact Nat.le_of_eq rfl) (hb hby at_89) (fun _ _ => ⟨rfl, e25_, (by decide : 7 + 0 ≤ _), (by decide : 30 + 0 ≤ _)⟩)
      dsimp only [Pt.U, Pt.locs, Pt.cells, Pt.slots] at X26_ l26_ y26_ z26_ st26_ hQ26_
      subst l26_ y26_ z26_
      obtain ⟨rfl, N26_q, K26_, E_b5, F_b5_variable, F_b5_written⟩ := hQ26_
      have N26_ := Fr.app N24_ N26_q
      refine Runs.tr st26_ ?_
      replace X26_ := wider X26_ (c' := 7) (s' := 30) (by decide) (by decide)
      replace old := old.keep K26_ (allS g_b5 all0)
      replace E_b2 := E_b2.keep K26_
      replace F_b2_type := F_b2_type.keep K26_ (ninS ne_b2_b5 nin0)
      replace sz := Nat.le_trans sz K26_.1
      replace hk := Nat.le_trans hk K26_.1
      replace K := K.trans K26_ (allS (Or.inr sz_b5) all0)
      show Runs p.tables e below _ (T26_.setTop (mkF m 92 #[.val (.int i0), .val (.int i1), .val (.int i2), .val (.int (1 : Int32)), .val (.ref t1), .val (.ref b1), .val (.ref b2), .val (.int (0 : Int32)), .unset, .unset] [(.ref b5)]))
      refine Runs.st (fun t' k' => XS.astore X26_.here hx rfl (hb hby at_92) rfl rfl (l' := #[.val (.int i0), .val (.int i1), .val (.int i2), .val (.int (1 : Int32)), .val (.ref t1), .val (.ref b1), .val (.ref b2), .val (.int (0 : Int32)), .val (.ref b5), .unset]) rfl k') ?_
      show Runs p.tables e below _ (T26_.setTop (mkF m 94 #[.val (.int i0), .val (.int i1), .val (.int i2), .val (.int (1 : Int32)), .val (.ref t1), .val (.ref b1), .val (.ref b2), .val (.int (0 : Int32)), .val (.ref b5), .unset] []))
      refine Runs.st (fun t' k' => XS.iloadN X26_.here hx rfl (hb hby at_94) rfl k') ?_
      show Runs p.tables e below _ (T26_.setTop (mkF m 95 #[.val (.int i0), .val (.int i1), .val (.int i2), .val (.int (1 : Int32)), .val (.ref t1), .val (.ref b1), .val (.ref b2), .val (.int (0 : Int32)), .val (.ref b5), .unset] [(.int (1 : Int32))]))
      refine Runs.st (fun t' k' => XS.iconst X26_.here hx rfl (hb hby at_95) k') ?_
      show Runs p.tables e below _ (T26_.setTop (mkF m 96 #[.val (.int i0), .val (.int i1), .val (.int i2), .val (.int (1 : Int32)), .val (.ref t1), .val (.ref b1), .val (.ref b2), .val (.int (0 : Int32)), .val (.ref b5), .unset] [(.int (2 : Int32)), (.int (1 : Int32))]))
      refine Runs.st (fun t' k' => XS.icmpYes X26_.here hx rfl (pc0 := 96) (pc' := 103) rfl (hb hby at_96) rfl (feq (by decide)).2 (by decide) (by decide) k') ?_
      show Runs p.tables e below _ (T26_.setTop (mkF m 103 #[.val (.int i0), .val (.int i1), .val (.int i2), .val (.int (1 : Int32)), .val (.ref t1), .val (.ref b1), .val (.ref b2), .val (.int (0 : Int32)), .val (.ref b5), .unset] []))
      refine Runs.st (fun t' k' => XS.iconst X26_.here hx rfl (hb hby at_103) k') ?_
      show Runs p.tables e below _ (T26_.setTop (mkF m 104 #[.val (.int i0), .val (.int i1), .val (.int i2), .val (.int (1 : Int32)), .val (.ref t1), .val (.ref b1), .val (.ref b2), .val (.int (0 : Int32)), .val (.ref b5), .unset] [(.int (0 : Int32))]))
      refine Runs.st (fun t' k' => XS.istore X26_.here hx rfl (hb hby at_104) rfl (l' := #[.val (.int i0), .val (.int i1), .val (.int i2), .val (.int (1 : Int32)), .val (.ref t1), .val (.ref b1), .val (.ref b2), .val (.int (0 : Int32)), .val (.ref b5), .val (.int (0 : Int32))]) rfl k') ?_
      show Runs p.tables e below _ (T26_.setTop (mkF m 106 #[.val (.int i0), .val (.int i1), .val (.int i2), .val (.int (1 : Int32)), .val (.ref t1), .val (.ref b1), .val (.ref b2), .val (.int (0 : Int32)), .val (.ref b5), .val (.int (0 : Int32))] []))
      refine Runs.st (fun t' k' => XS.aload X26_.here hx rfl (hb hby at_106) rfl rfl k') ?_
      show Runs p.tables e below _ (T26_.setTop (mkF m 108 #[.val (.int i0), .val (.int i1), .val (.int i2), .val (.int (1 : Int32)), .val (.ref t1), .val (.ref b1), .val (.ref b2), .val (.int (0 : Int32)), .val (.ref b5), .val (.int (0 : Int32))] [(.ref b5)]))
      obtain ⟨cq27_, kq27_, q27_a, q27_b, q27_c⟩ := isOf hZ rfl E_b5
      obtain ⟨_, _, ⟨T27_, L27_, k27_, n27_⟩, -, X27_, ⟨Lc27_, hQ27_, l27_, y27_, z27_⟩, st27_⟩ := X26_.virtualBack hx (y := (⟨"com/example/final_marking/finalmarking/net/Guard$Value", "isBoolean", "()Z"⟩ : MethodName)) (z := (⟨"com/example/final_marking/finalmarking/net/Guard$Value", "isBoolean", "()Z"⟩ : MethodName)) hown (mvT hZ (hw _ (List.mem_of_getElem? (i := 73) rfl))) (mvT hZ (hw _ (List.mem_of_getElem? (i := 74) rfl))) (notFace_of_selects (args := #[]) (mvT hZ (hw _ (List.mem_of_getElem? (i := 76) rfl)))) (mvT hZ (hw _ (List.mem_of_getElem? (i := 76) rfl))) (mvT hZ (hw _ (List.mem_of_getElem? (i := 75) rfl))) (by decide) (backOf (W := 0) (rmIsB l Z a0 hw [] b5 b2 t1 t2 (0 : Int32) T26_.heap n0 sz F_b5_variable E_b2 F_b2_type (S2.ext old.2) (Or.inr ⟨neq O1 O2 (by decide), rfl⟩)) hZ (hw _ (List.mem_of_getElem? (i := 77) rfl)) (hw _ (List.mem_of_getElem? (i := 64) rfl)) (by decide) (by decide)) q27_a q27_c (g := (mkF m 108 #[.val (.int i0), .val (.int i1), .val (.int i2), .val (.int (1 : Int32)), .val (.ref t1), .val (.ref b1), .val (.ref b2), .val (.int (0 : Int32)), .val (.ref b5), .val (.int (0 : Int32))] [(.ref b5)])) rfl (by rw [hml]; rfl) (Steps.refl _) (argsL := []) (rest := []) (lenOf pd__28_29Z rfl) rfl (by show 2 * 0 + _ ≤ _; exact Nat.le_of_eq rfl) (hb hby at_108) (fun _ _ => ⟨rfl, rfl, (by decide : 7 + 0 ≤ _), (by decide : 30 + 0 ≤ _)⟩)
      dsimp only [Pt.U, Pt.locs, Pt.cells, Pt.slots] at X27_ l27_ y27_ z27_ st27_ hQ27_
      subst l27_ y27_ z27_
      obtain ⟨rfl, N27_q, e27_⟩ := hQ27_
      have N27_ := Fr.app N26_ N27_q
      refine Runs.tr st27_ ?_
      replace X27_ := wider X27_ (c' := 7) (s' := 30) (by decide) (by decide)
      show Runs p.tables e below _ (T27_.setTop (mkF m 111 #[.val (.int i0), .val (.int i1), .val (.int i2), .val (.int (1 : Int32)), .val (.ref t1), .val (.ref b1), .val (.ref b2), .val (.int (0 : Int32)), .val (.ref b5), .val (.int (0 : Int32))] [(.int (0 : Int32))]))
      refine Runs.st (fun t' k' => XS.iload X27_.here hx rfl (hb hby at_111) rfl k') ?_
      show Runs p.tables e below _ (T27_.setTop (mkF m 113 #[.val (.int i0), .val (.int i1), .val (.int i2), .val (.int (1 : Int32)), .val (.ref t1), .val (.ref b1), .val (.ref b2), .val (.int (0 : Int32)), .val (.ref b5), .val (.int (0 : Int32))] [(.int (0 : Int32)), (.int (0 : Int32))]))
      refine Runs.st (fun t' k' => XS.icmpNo X27_.here hx rfl (hb hby at_113) rfl (teq rfl).2 k') ?_
      show Runs p.tables e below _ (T27_.setTop (mkF m 116 #[.val (.int i0), .val (.int i1), .val (.int i2), .val (.int (1 : Int32)), .val (.ref t1), .val (.ref b1), .val (.ref b2), .val (.int (0 : Int32)), .val (.ref b5), .val (.int (0 : Int32))] []))
      refine Runs.st (fun t' k' => XS.aload X27_.here hx rfl (hb hby at_116) rfl rfl k') ?_
      show Runs p.tables e below _ (T27_.setTop (mkF m 118 #[.val (.int i0), .val (.int i1), .val (.int i2), .val (.int (1 : Int32)), .val (.ref t1), .val (.ref b1), .val (.ref b2), .val (.int (0 : Int32)), .val (.ref b5), .val (.int (0 : Int32))] [(.ref b5)]))
      obtain ⟨cq28_, kq28_, q28_a, q28_b, q28_c⟩ := isOf hZ e27_ E_b5
      obtain ⟨_, _, ⟨T28_, L28_, k28_, n28_⟩, -, X28_, ⟨Lc28_, hQ28_, l28_, y28_, z28_⟩, st28_⟩ := X27_.virtualBack hx (y := (⟨"com/example/final_marking/finalmarking/net/Guard$Value", "variable", "()Lcom/example/final_marking/finalmarking/net/Variable;"⟩ : MethodName)) (z := (⟨"com/example/final_marking/finalmarking/net/Guard$Value", "variable", "()Lcom/example/final_marking/finalmarking/net/Variable;"⟩ : MethodName)) hown (mvT hZ (hw _ (List.mem_of_getElem? (i := 85) rfl))) (mvT hZ (hw _ (List.mem_of_getElem? (i := 86) rfl))) (notFace_of_selects (args := #[]) (mvT hZ (hw _ (List.mem_of_getElem? (i := 88) rfl)))) (mvT hZ (hw _ (List.mem_of_getElem? (i := 88) rfl))) (mvT hZ (hw _ (List.mem_of_getElem? (i := 87) rfl))) (by decide) (backOf (W := 0) (rmGV l Z a0 hw [] b5 b2 T26_.heap n0 sz F_b5_variable) hZ (hw _ (List.mem_of_getElem? (i := 89) rfl)) (hw _ (List.mem_of_getElem? (i := 64) rfl)) (by decide) (by decide)) q28_a q28_c (g := (mkF m 118 #[.val (.int i0), .val (.int i1), .val (.int i2), .val (.int (1 : Int32)), .val (.ref t1), .val (.ref b1), .val (.ref b2), .val (.int (0 : Int32)), .val (.ref b5), .val (.int (0 : Int32))] [(.ref b5)])) rfl (by rw [hml]; rfl) (Steps.refl _) (argsL := []) (rest := []) (lenOf pd__28_29Lcom_2fexample_2ffinal_marking_2ffinalmarking_2fnet_2fVariable_3b rfl) rfl (by show 2 * 0 + _ ≤ _; exact Nat.le_of_eq rfl) (hb hby at_118) (fun _ _ => ⟨rfl, e27_, (by decide : 7 + 0 ≤ _), (by decide : 30 + 0 ≤ _)⟩)
      dsimp only [Pt.U, Pt.locs, Pt.cells, Pt.slots] at X28_ l28_ y28_ z28_ st28_ hQ28_
      subst l28_ y28_ z28_
      obtain ⟨rfl, N28_q, e28_⟩ := hQ28_
      have N28_ := Fr.app N27_ N28_q
      refine Runs.tr st28_ ?_
      replace X28_ := wider X28_ (c' := 7) (s' := 30) (by decide) (by decide)
      show Runs p.tables e below _ (T28_.setTop (mkF m 121 #[.val (.int i0), .val (.int i1), .val (.int i2), .val (.int (1 : Int32)), .val (.ref t1), .val (.ref b1), .val (.ref b2), .val (.int (0 : Int32)), .val (.ref b5), .val (.int (0 : Int32))] [(.ref b2)]))
      refine Runs.st (fun t' k' => XS.aload X28_.here hx rfl (hb hby at_121) rfl rfl k') ?_
      show Runs p.tables e below _ (T28_.setTop (mkF m 123 #[.val (.int i0), .val (.int i1), .val (.int i2), .val (.int (1 : Int32)), .val (.ref t1), .val (.ref b1), .val (.ref b2), .val (.int (0 : Int32)), .val (.ref b5), .val (.int (0 : Int32))] [(.ref b2), (.ref b2)]))
      refine Runs.st (fun t' k' => Jvm.RoadKit.acmp (g := (mkF m 123 #[.val (.int i0), .val (.int i1), .val (.int i2), .val (.int (1 : Int32)), .val (.ref t1), .val (.ref b1), .val (.ref b2), .val (.int (0 : Int32)), .val (.ref b5), .val (.int (0 : Int32))] [(.ref b2), (.ref b2)])) X28_ hx rfl rfl rfl (pc0 := 123) (pc' := 126) (same := true) rfl (hb hby at_123) rfl (decide_eq_true rfl) (by decide) (by decide) k') ?_
      show Runs p.tables e below _ (T28_.setTop (mkF m 126 #[.val (.int i0), .val (.int i1), .val (.int i2), .val (.int (1 : Int32)), .val (.ref t1), .val (.ref b1), .val (.ref b2), .val (.int (0 : Int32)), .val (.ref b5), .val (.int (0 : Int32))] []))
      refine Runs.st (fun t' k' => XS.aload X28_.here hx rfl (hb hby at_126) rfl rfl k') ?_
      show Runs p.tables e below _ (T28_.setTop (mkF m 128 #[.val (.int i0), .val (.int i1), .val (.int i2), .val (.int (1 : Int32)), .val (.ref t1), .val (.ref b1), .val (.ref b2), .val (.int (0 : Int32)), .val (.ref b5), .val (.int (0 : Int32))] [(.ref b5)]))
      obtain ⟨cq29_, kq29_, q29_a, q29_b, q29_c⟩ := isOf hZ e28_ E_b5
      obtain ⟨_, _, ⟨T29_, L29_, k29_, n29_⟩, -, X29_, ⟨Lc29_, hQ29_, l29_, y29_, z29_⟩, st29_⟩ := X28_.virtualBack hx (y := (⟨"com/example/final_marking/finalmarking/net/Guard$Value", "written", "()Z"⟩ : MethodName)) (z := (⟨"com/example/final_marking/finalmarking/net/Guard$Value", "written", "()Z"⟩ : MethodName)) hown (mvT hZ (hw _ (List.mem_of_getElem? (i := 90) rfl))) (mvT hZ (hw _ (List.mem_of_getElem? (i := 91) rfl))) (notFace_of_selects (args := #[]) (mvT hZ (hw _ (List.mem_of_getElem? (i := 93) rfl)))) (mvT hZ (hw _ (List.mem_of_getElem? (i := 93) rfl))) (mvT hZ (hw _ (List.mem_of_getElem? (i := 92) rfl))) (by decide) (backOf (W := 0) (rmGW l Z a0 hw [] b5 (nar .boolean (0 : Int32)) T26_.heap n0 sz F_b5_written) hZ (hw _ (List.mem_of_getElem? (i := 94) rfl)) (hw _ (List.mem_of_getElem? (i := 64) rfl)) (by decide) (by decide)) q29_a q29_c (g := (mkF m 128 #[.val (.int i0), .val (.int i1), .val (.int i2), .val (.int (1 : Int32)), .val (.ref t1), .val (.ref b1), .val (.ref b2), .val (.int (0 : Int32)), .val (.ref b5), .val (.int (0 : Int32))] [(.ref b5)])) rfl (by rw [hml]; rfl) (Steps.refl _) (argsL := []) (rest := []) (lenOf pd__28_29Z rfl) rfl (by show 2 * 0 + _ ≤ _; exact Nat.le_of_eq rfl) (hb hby at_128) (fun _ _ => ⟨rfl, e28_, (by decide : 7 + 0 ≤ _), (by decide : 30 + 0 ≤ _)⟩)
      dsimp only [Pt.U, Pt.locs, Pt.cells, Pt.slots] at X29_ l29_ y29_ z29_ st29_ hQ29_
      subst l29_ y29_ z29_
      obtain ⟨rfl, N29_q, e29_⟩ := hQ29_
      have N29_ := Fr.app N28_ N29_q
      refine Runs.tr st29_ ?_
      replace X29_ := wider X29_ (c' := 7) (s' := 30) (by decide) (by decide)
      show Runs p.tables e below _ (T29_.setTop (mkF m 131 #[.val (.int i0), .val (.int i1), .val (.int i2), .val (.int (1 : Int32)), .val (.ref t1), .val (.ref b1), .val (.ref b2), .val (.int (0 : Int32)), .val (.ref b5), .val (.int (0 : Int32))] [(.int (nar .boolean (nar .boolean (0 : Int32))))]))
      refine Runs.st (fun t' k' => XS.iload X29_.here hx rfl (hb hby at_131) rfl k') ?_
      show Runs p.tables e below _ (T29_.setTop (mkF m 133 #[.val (.int i0), .val (.int i1), .val (.int i2), .val (.int (1 : Int32)), .val (.ref t1), .val (.ref b1), .val (.ref b2), .val (.int (0 : Int32)), .val (.ref b5), .val (.int (0 : Int32))] [(.int (0 : Int32)), (.int (nar .boolean (nar .boolean (0 : Int32))))]))
      refine Runs.st (fun t' k' => XS.icmpNo X29_.here hx rfl (hb hby at_133) rfl (teq (by decide)).2 k') ?_
      show Runs p.tables e below _ (T29_.setTop (mkF m 136 #[.val (.int i0), .val (.int i1), .val (.int i2), .val (.int (1 : Int32)), .val (.ref t1), .val (.ref b1), .val (.ref b2), .val (.int (0 : Int32)), .val (.ref b5), .val (.int (0 : Int32))] []))
      refine Runs.st (fun t' k' => XS.iconst X29_.here hx rfl (hb hby at_136) k') ?_
      show Runs p.tables e below _ (T29_.setTop (mkF m 137 #[.val (.int i0), .val (.int i1), .val (.int i2), .val (.int (1 : Int32)), .val (.ref t1), .val (.ref b1), .val (.ref b2), .val (.int (0 : Int32)), .val (.ref b5), .val (.int (0 : Int32))] [(.int (1 : Int32))]))
      refine Runs.st (fun t' k' => XS.goto X29_.here hx rfl (pc0 := 137) (pc' := 141) rfl (hb hby at_137) (by decide) (by decide) k') ?_
      show Runs p.tables e below _ (T29_.setTop (mkF m 141 #[.val (.int i0), .val (.int i1), .val (.int i2), .val (.int (1 : Int32)), .val (.ref t1), .val (.ref b1), .val (.ref b2), .val (.int (0 : Int32)), .val (.ref b5), .val (.int (0 : Int32))] [(.int (1 : Int32))]))
      refine Runs.retW (vm₁ := T24_.vm) X29_ hS (by rw [e29_]; exact hk) hlk (v := (some (.int (1 : Int32)))) (fun h => by rw [hret] at h; cases h) (by decide) (by decide) ?_ (fun fs hr => retN X29_ hx (t := .boolean) hret (by simp) (hb hby at_141) hr)
      try rw [e29_]
      exact ⟨rfl, N29_⟩
    · skip
      refine Runs.st (fun t' k' => XS.ifNo X24_.here hx rfl (hb hby at_71) rfl ((if0 _ _).trans (feq c71).1) k') ?_
      show Runs p.tables e below _ (T24_.setTop (mkF m 74 #[.val (.int i0), .val (.int i1), .val (.int i2), .val (.int (1 : Int32)), .val (.ref t1), .val (.ref b1), .val (.ref b2), .unset, .unset, .unset] []))
      refine Runs.st (fun t' k' => XS.iconst X24_.here hx rfl (hb hby at_74) k') ?_
      show Runs p.tables e below _ (T24_.setTop (mkF m 75 #[.val (.int i0), .val (.int i1), .val (.int i2), .val (.int (1 : Int32)), .val (.ref t1), .val (.ref b1), .val (.ref b2), .unset, .unset, .unset] [(.int (1 : Int32))]))
      refine Runs.st (fun t' k' => XS.goto X24_.here hx rfl (pc0 := 75) (pc' := 79) rfl (hb hby at_75) (by decide) (by decide) k') ?_
      show Runs p.tables e below _ (T24_.setTop (mkF m 79 #[.val (.int i0), .val (.int i1), .val (.int i2), .val (.int (1 : Int32)), .val (.ref t1), .val (.ref b1), .val (.ref b2), .unset, .unset, .unset] [(.int (1 : Int32))]))
      refine Runs.st (fun t' k' => XS.istore X24_.here hx rfl (hb hby at_79) rfl (l' := #[.val (.int i0), .val (.int i1), .val (.int i2), .val (.int (1 : Int32)), .val (.ref t1), .val (.ref b1), .val (.ref b2), .val (.int (1 : Int32)), .unset, .unset]) rfl k') ?_
      show Runs p.tables e below _ (T24_.setTop (mkF m 81 #[.val (.int i0), .val (.int i1), .val (.int i2), .val (.int (1 : Int32)), .val (.ref t1), .val (.ref b1), .val (.ref b2), .val (.int (1 : Int32)), .unset, .unset] []))
      obtain ⟨T30_, h30_, X30_, e30_, E30_, A30_, D30_, -, st30_⟩ := newO X24_ hx hZ hown (hw _ (List.mem_of_getElem? (i := 62) rfl)) (hw _ (List.mem_of_getElem? (i := 63) rfl)) (hw _ (List.mem_of_getElem? (i := 64) rfl)) rfl (g := (mkF m 81 #[.val (.int i0), .val (.int i1), .val (.int i2), .val (.int (1 : Int32)), .val (.ref t1), .val (.ref b1), .val (.ref b2), .val (.int (1 : Int32)), .unset, .unset] [])) rfl (hb hby at_81) (by decide) (by decide)
      refine Runs.st (st30_) ?_
      obtain ⟨b5, g30_⟩ : ∃ z, z = T24_.heap.size := ⟨_, rfl⟩
      rw [← g30_] at A30_ D30_
      try rw [← g30_]
      have g_b5 : n0 ≤ b5 := Nat.le_trans sz (Nat.le_of_eq g30_.symm)
      have sz_b5 : h0.size ≤ b5 := Nat.le_trans K.1 (Nat.le_of_eq g30_.symm)
      have ne_b2_b5 : b2 ≠ b5 := Nat.ne_of_lt (Nat.lt_of_lt_of_le E_b2.lt (Nat.le_of_eq g30_.symm))
      replace old := old.ext E30_
      replace E_b2 := E_b2.ext E30_
      replace F_b2_type := F_b2_type.ext E30_
      replace sz := Nat.le_trans sz E30_.1
      replace K := K.ext E30_
      replace hk := Nat.le_trans hk E30_.1
      have E_b5 := A30_
      have F_b5_variable : Fld Z h30_ b5 "com/example/final_marking/finalmarking/net/Guard$Value" "variable" "Lcom/example/final_marking/finalmarking/net/Variable;" .null := D30_ (Or.inr (hw _ (List.mem_of_getElem? (i := 70) rfl))) (ty := (.object "com/example/final_marking/finalmarking/net/Variable")) (by decide)
      have F_b5_written : Fld Z h30_ b5 "com/example/final_marking/finalmarking/net/Guard$Value" "written" "Z" (.int (0 : Int32)) := D30_ (Or.inr (hw _ (List.mem_of_getElem? (i := 72) rfl))) (ty := .boolean) (by decide)
      show Runs p.tables e below _ (T30_.setTop (mkF m 84 #[.val (.int i0), .val (.int i1), .val (.int i2), .val (.int (1 : Int32)), .val (.ref t1), .val (.ref b1), .val (.ref b2), .val (.int (1 : Int32)), .unset, .unset] [(.ref b5)]))
      refine Runs.st (fun t' k' => XS.dup X30_.here hx rfl (hb hby at_84) rfl rfl k') ?_
      show Runs p.tables e below _ (T30_.setTop (mkF m 85 #[.val (.int i0), .val (.int i1), .val (.int i2), .val (.int (1 : Int32)), .val (.ref t1), .val (.ref b1), .val (.ref b2), .val (.int (1 : Int32)), .unset, .unset] [(.ref b5), (.ref b5)]))
      refine Runs.st (fun t' k' => XS.aload X30_.here hx rfl (hb hby at_85) rfl rfl k') ?_
      show Runs p.tables e below _ (T30_.setTop (mkF m 87 #[.val (.int i0), .val (.int i1), .val (.int i2), .val (.int (1 : Int32)), .val (.ref t1), .val (.ref b1), .val (.ref b2), .val (.int (1 : Int32)), .unset, .unset] [(.ref b2), (.ref b5), (.ref b5)]))
      refine Runs.st (fun t' k' => XS.iload X30_.here hx rfl (hb hby at_87) rfl k') ?_
      show Runs p.tables e below _ (T30_.setTop (mkF m 89 #[.val (.int i0), .val (.int i1), .val (.int i2), .val (.int (1 : Int32)), .val (.ref t1), .val (.ref b1), .val (.ref b2), .val (.int (1 : Int32)), .unset, .unset] [(.int (1 : Int32)), (.ref b2), (.ref b5), (.ref b5)]))
      obtain ⟨_, _, ⟨T31_, L31_, k31_, n31_⟩, -, X31_, ⟨Lc31_, hQ31_, l31_, y31_, z31_⟩, st31_⟩ := X30_.specialBack hx (y := (⟨"com/example/final_marking/finalmarking/net/Guard$Value", "<init>", "(Lcom/example/final_marking/finalmarking/net/Variable;Z)V"⟩ : MethodName)) rfl hown (mvT hZ (hw _ (List.mem_of_getElem? (i := 65) rfl))) (mvT hZ (hw _ (List.mem_of_getElem? (i := 66) rfl))) (mvT hZ (hw _ (List.mem_of_getElem? (i := 67) rfl))) (by decide) (backOf (W := 1) (rmVal l Z a0 hw [] b5 b2 (1 : Int32) h30_ n0 sz E_b5 F_b5_variable F_b5_written g_b5) hZ (hw _ (List.mem_of_getElem? (i := 67) rfl)) (hw _ (List.mem_of_getElem? (i := 64) rfl)) (by decide) (by decide)) (g := (mkF m 89 #[.val (.int i0), .val (.int i1), .val (.int i2), .val (.int (1 : Int32)), .val (.ref t1), .val (.ref b1), .val (.ref b2), .val (.int (1 : Int32)), .unset, .unset] [(.int (1 : Int32)), (.ref b2), (.ref b5), (.ref b5)])) rfl (by rw [hml]; rfl) (Steps.refl _) (a := b5) (argsL := [(.ref b2), (.int (1 : Int32))]) (rest := [(.ref b5)]) (lenOf pd__28Lcom_2fexample_2ffinal_marking_2ffinalmarking_2fnet_2fVariable_3bZ_29V rfl) rfl (by show 2 * 0 + _ ≤ _; exact Nat.le_of_eq rfl) (hb hby at_89) (fun _ _ => ⟨rfl, e30_, (by decide : 7 + 0 ≤ _), (by decide : 30 + 0 ≤ _)⟩)
      dsimp only [Pt.U, Pt.locs, Pt.cells, Pt.slots] at X31_ l31_ y31_ z31_ st31_ hQ31_
      subst l31_ y31_ z31_
      obtain ⟨rfl, N31_q, K31_, E_b5, F_b5_variable, F_b5_written⟩ := hQ31_
      have N31_ := Fr.app N24_ N31_q
      refine Runs.tr st31_ ?_
      replace X31_ := wider X31_ (c' := 7) (s' := 30) (by decide) (by decide)
      replace old := old.keep K31_ (allS g_b5 all0)
      replace E_b2 := E_b2.keep K31_
      replace F_b2_type := F_b2_type.keep K31_ (ninS ne_b2_b5 nin0)
      replace sz := Nat.le_trans sz K31_.1
      replace hk := Nat.le_trans hk K31_.1
      replace K := K.trans K31_ (allS (Or.inr sz_b5) all0)
      show Runs p.tables e below _ (T31_.setTop (mkF m 92 #[.val (.int i0), .val (.int i1), .val (.int i2), .val (.int (1 : Int32)), .val (.ref t1), .val (.ref b1), .val (.ref b2), .val (.int (1 : Int32)), .unset, .unset] [(.ref b5)]))
      refine Runs.st (fun t' k' => XS.astore X31_.here hx rfl (hb hby at_92) rfl rfl (l' := #[.val (.int i0), .val (.int i1), .val (.int i2), .val (.int (1 : Int32)), .val (.ref t1), .val (.ref b1), .val (.ref b2), .val (.int (1 : Int32)), .val (.ref b5), .unset]) rfl k') ?_
      show Runs p.tables e below _ (T31_.setTop (mkF m 94 #[.val (.int i0), .val (.int i1), .val (.int i2), .val (.int (1 : Int32)), .val (.ref t1), .val (.ref b1), .val (.ref b2), .val (.int (1 : Int32)), .val (.ref b5), .unset] []))
      refine Runs.st (fun t' k' => XS.iloadN X31_.here hx rfl (hb hby at_94) rfl k') ?_
      show Runs p.tables e below _ (T31_.setTop (mkF m 95 #[.val (.int i0), .val (.int i1), .val (.int i2), .val (.int (1 : Int32)), .val (.ref t1), .val (.ref b1), .val (.ref b2), .val (.int (1 : Int32)), .val (.ref b5), .unset] [(.int (1 : Int32))]))
      refine Runs.st (fun t' k' => XS.iconst X31_.here hx rfl (hb hby at_95) k') ?_
      show Runs p.tables e below _ (T31_.setTop (mkF m 96 #[.val (.int i0), .val (.int i1), .val (.int i2), .val (.int (1 : Int32)), .val (.ref t1), .val (.ref b1), .val (.ref b2), .val (.int (1 : Int32)), .val (.ref b5), .unset] [(.int (2 : Int32)), (.int (1 : Int32))]))
      refine Runs.st (fun t' k' => XS.icmpYes X31_.here hx rfl (pc0 := 96) (pc' := 103) rfl (hb hby at_96) rfl (feq (by decide)).2 (by decide) (by decide) k') ?_
      show Runs p.tables e below _ (T31_.setTop (mkF m 103 #[.val (.int i0), .val (.int i1), .val (.int i2), .val (.int (1 : Int32)), .val (.ref t1), .val (.ref b1), .val (.ref b2), .val (.int (1 : Int32)), .val (.ref b5), .unset] []))
      refine Runs.st (fun t' k' => XS.iconst X31_.here hx rfl (hb hby at_103) k') ?_
      show Runs p.tables e below _ (T31_.setTop (mkF m 104 #[.val (.int i0), .val (.int i1), .val (.int i2), .val (.int (1 : Int32)), .val (.ref t1), .val (.ref b1), .val (.ref b2), .val (.int (1 : Int32)), .val (.ref b5), .unset] [(.int (0 : Int32))]))
      refine Runs.st (fun t' k' => XS.istore X31_.here hx rfl (hb hby at_104) rfl (l' := #[.val (.int i0), .val (.int i1), .val (.int i2), .val (.int (1 : Int32)), .val (.ref t1), .val (.ref b1), .val (.ref b2), .val (.int (1 : Int32)), .val (.ref b5), .val (.int (0 : Int32))]) rfl k') ?_
      show Runs p.tables e below _ (T31_.setTop (mkF m 106 #[.val (.int i0), .val (.int i1), .val (.int i2), .val (.int (1 : Int32)), .val (.ref t1), .val (.ref b1), .val (.ref b2), .val (.int (1 : Int32)), .val (.ref b5), .val (.int (0 : Int32))] []))
      refine Runs.st (fun t' k' => XS.aload X31_.here hx rfl (hb hby at_106) rfl rfl k') ?_
      show Runs p.tables e below _ (T31_.setTop (mkF m 108 #[.val (.int i0), .val (.int i1), .val (.int i2), .val (.int (1 : Int32)), .val (.ref t1), .val (.ref b1), .val (.ref b2), .val (.int (1 : Int32)), .val (.ref b5), .val (.int (0 : Int32))] [(.ref b5)]))
      obtain ⟨cq32_, kq32_, q32_a, q32_b, q32_c⟩ := isOf hZ rfl E_b5
      obtain ⟨_, _, ⟨T32_, L32_, k32_, n32_⟩, -, X32_, ⟨Lc32_, hQ32_, l32_, y32_, z32_⟩, st32_⟩ := X31_.virtualBack hx (y := (⟨"com/example/final_marking/finalmarking/net/Guard$Value", "isBoolean", "()Z"⟩ : MethodName)) (z := (⟨"com/example/final_marking/finalmarking/net/Guard$Value", "isBoolean", "()Z"⟩ : MethodName)) hown (mvT hZ (hw _ (List.mem_of_getElem? (i := 73) rfl))) (mvT hZ (hw _ (List.mem_of_getElem? (i := 74) rfl))) (notFace_of_selects (args := #[]) (mvT hZ (hw _ (List.mem_of_getElem? (i := 76) rfl)))) (mvT hZ (hw _ (List.mem_of_getElem? (i := 76) rfl))) (mvT hZ (hw _ (List.mem_of_getElem? (i := 75) rfl))) (by decide) (backOf (W := 0) (rmIsB l Z a0 hw [] b5 b2 t1 t2 (0 : Int32) T31_.heap n0 sz F_b5_variable E_b2 F_b2_type (S2.ext old.2) (Or.inr ⟨neq O1 O2 (by decide), rfl⟩)) hZ (hw _ (List.mem_of_getElem? (i := 77) rfl)) (hw _ (List.mem_of_getElem? (i := 64) rfl)) (by decide) (by decide)) q32_a q32_c (g := (mkF m 108 #[.val (.int i0), .val (.int i1), .val (.int i2), .val (.int (1 : Int32)), .val (.ref t1), .val (.ref b1), .val (.ref b2), .val (.int (1 : Int32)), .val (.ref b5), .val (.int (0 : Int32))] [(.ref b5)])) rfl (by rw [hml]; rfl) (Steps.refl _) (argsL := []) (rest := []) (lenOf pd__28_29Z rfl) rfl (by show 2 * 0 + _ ≤ _; exact Nat.le_of_eq rfl) (hb hby at_108) (fun _ _ => ⟨rfl, rfl, (by decide : 7 + 0 ≤ _), (by decide : 30 + 0 ≤ _)⟩)
      dsimp only [Pt.U, Pt.locs, Pt.cells, Pt.slots] at X32_ l32_ y32_ z32_ st32_ hQ32_
      subst l32_ y32_ z32_
      obtain ⟨rfl, N32_q, e32_⟩ := hQ32_
      have N32_ := Fr.app N31_ N32_q
      refine Runs.tr st32_ ?_
      replace X32_ := wider X32_ (c' := 7) (s' := 30) (by decide) (by decide)
      show Runs p.tables e below _ (T32_.setTop (mkF m 111 #[.val (.int i0), .val (.int i1), .val (.int i2), .val (.int (1 : Int32)), .val (.ref t1), .val (.ref b1), .val (.ref b2), .val (.int (1 : Int32)), .val (.ref b5), .val (.int (0 : Int32))] [(.int (0 : Int32))]))
      refine Runs.st (fun t' k' => XS.iload X32_.here hx rfl (hb hby at_111) rfl k') ?_
      show Runs p.tables e below _ (T32_.setTop (mkF m 113 #[.val (.int i0), .val (.int i1), .val (.int i2), .val (.int (1 : Int32)), .val (.ref t1), .val (.ref b1), .val (.ref b2), .val (.int (1 : Int32)), .val (.ref b5), .val (.int (0 : Int32))] [(.int (0 : Int32)), (.int (0 : Int32))]))
      refine Runs.st (fun t' k' => XS.icmpNo X32_.here hx rfl (hb hby at_113) rfl (teq rfl).2 k') ?_
      show Runs p.tables e below _ (T32_.setTop (mkF m 116 #[.val (.int i0), .val (.int i1), .val (.int i2), .val (.int (1 : Int32)), .val (.ref t1), .val (.ref b1), .val (.ref b2), .val (.int (1 : Int32)), .val (.ref b5), .val (.int (0 : Int32))] []))
      refine Runs.st (fun t' k' => XS.aload X32_.here hx rfl (hb hby at_116) rfl rfl k') ?_
      show Runs p.tables e below _ (T32_.setTop (mkF m 118 #[.val (.int i0), .val (.int i1), .val (.int i2), .val (.int (1 : Int32)), .val (.ref t1), .val (.ref b1), .val (.ref b2), .val (.int (1 : Int32)), .val (.ref b5), .val (.int (0 : Int32))] [(.ref b5)]))
      obtain ⟨cq33_, kq33_, q33_a, q33_b, q33_c⟩ := isOf hZ e32_ E_b5
      obtain ⟨_, _, ⟨T33_, L33_, k33_, n33_⟩, -, X33_, ⟨Lc33_, hQ33_, l33_, y33_, z33_⟩, st33_⟩ := X32_.virtualBack hx (y := (⟨"com/example/final_marking/finalmarking/net/Guard$Value", "variable", "()Lcom/example/final_marking/finalmarking/net/Variable;"⟩ : MethodName)) (z := (⟨"com/example/final_marking/finalmarking/net/Guard$Value", "variable", "()Lcom/example/final_marking/finalmarking/net/Variable;"⟩ : MethodName)) hown (mvT hZ (hw _ (List.mem_of_getElem? (i := 85) rfl))) (mvT hZ (hw _ (List.mem_of_getElem? (i := 86) rfl))) (notFace_of_selects (args := #[]) (mvT hZ (hw _ (List.mem_of_getElem? (i := 88) rfl)))) (mvT hZ (hw _ (List.mem_of_getElem? (i := 88) rfl))) (mvT hZ (hw _ (List.mem_of_getElem? (i := 87) rfl))) (by decide) (backOf (W := 0) (rmGV l Z a0 hw [] b5 b2 T31_.heap n0 sz F_b5_variable) hZ (hw _ (List.mem_of_getElem? (i := 89) rfl)) (hw _ (List.mem_of_getElem? (i := 64) rfl)) (by decide) (by decide)) q33_a q33_c (g := (mkF m 118 #[.val (.int i0), .val (.int i1), .val (.int i2), .val (.int (1 : Int32)), .val (.ref t1), .val (.ref b1), .val (.ref b2), .val (.int (1 : Int32)), .val (.ref b5), .val (.int (0 : Int32))] [(.ref b5)])) rfl (by rw [hml]; rfl) (Steps.refl _) (argsL := []) (rest := []) (lenOf pd__28_29Lcom_2fexample_2ffinal_marking_2ffinalmarking_2fnet_2fVariable_3b rfl) rfl (by show 2 * 0 + _ ≤ _; exact Nat.le_of_eq rfl) (hb hby at_118) (fun _ _ => ⟨rfl, e32_, (by decide : 7 + 0 ≤ _), (by decide : 30 + 0 ≤ _)⟩)
      dsimp only [Pt.U, Pt.locs, Pt.cells, Pt.slots] at X33_ l33_ y33_ z33_ st33_ hQ33_
      subst l33_ y33_ z33_
      obtain ⟨rfl, N33_q, e33_⟩ := hQ33_
      have N33_ := Fr.app N32_ N33_q
      refine Runs.tr st33_ ?_
      replace X33_ := wider X33_ (c' := 7) (s' := 30) (by decide) (by decide)
      show Runs p.tables e below _ (T33_.setTop (mkF m 121 #[.val (.int i0), .val (.int i1), .val (.int i2), .val (.int (1 : Int32)), .val (.ref t1), .val (.ref b1), .val (.ref b2), .val (.int (1 : Int32)), .val (.ref b5), .val (.int (0 : Int32))] [(.ref b2)]))
      refine Runs.st (fun t' k' => XS.aload X33_.here hx rfl (hb hby at_121) rfl rfl k') ?_
      show Runs p.tables e below _ (T33_.setTop (mkF m 123 #[.val (.int i0), .val (.int i1), .val (.int i2), .val (.int (1 : Int32)), .val (.ref t1), .val (.ref b1), .val (.ref b2), .val (.int (1 : Int32)), .val (.ref b5), .val (.int (0 : Int32))] [(.ref b2), (.ref b2)]))
      refine Runs.st (fun t' k' => Jvm.RoadKit.acmp (g := (mkF m 123 #[.val (.int i0), .val (.int i1), .val (.int i2), .val (.int (1 : Int32)), .val (.ref t1), .val (.ref b1), .val (.ref b2), .val (.int (1 : Int32)), .val (.ref b5), .val (.int (0 : Int32))] [(.ref b2), (.ref b2)])) X33_ hx rfl rfl rfl (pc0 := 123) (pc' := 126) (same := true) rfl (hb hby at_123) rfl (decide_eq_true rfl) (by decide) (by decide) k') ?_
      show Runs p.tables e below _ (T33_.setTop (mkF m 126 #[.val (.int i0), .val (.int i1), .val (.int i2), .val (.int (1 : Int32)), .val (.ref t1), .val (.ref b1), .val (.ref b2), .val (.int (1 : Int32)), .val (.ref b5), .val (.int (0 : Int32))] []))
      refine Runs.st (fun t' k' => XS.aload X33_.here hx rfl (hb hby at_126) rfl rfl k') ?_
      show Runs p.tables e below _ (T33_.setTop (mkF m 128 #[.val (.int i0), .val (.int i1), .val (.int i2), .val (.int (1 : Int32)), .val (.ref t1), .val (.ref b1), .val (.ref b2), .val (.int (1 : Int32)), .val (.ref b5), .val (.int (0 : Int32))] [(.ref b5)]))
      obtain ⟨cq34_, kq34_, q34_a, q34_b, q34_c⟩ := isOf hZ e33_ E_b5
      obtain ⟨_, _, ⟨T34_, L34_, k34_, n34_⟩, -, X34_, ⟨Lc34_, hQ34_, l34_, y34_, z34_⟩, st34_⟩ := X33_.virtualBack hx (y := (⟨"com/example/final_marking/finalmarking/net/Guard$Value", "written", "()Z"⟩ : MethodName)) (z := (⟨"com/example/final_marking/finalmarking/net/Guard$Value", "written", "()Z"⟩ : MethodName)) hown (mvT hZ (hw _ (List.mem_of_getElem? (i := 90) rfl))) (mvT hZ (hw _ (List.mem_of_getElem? (i := 91) rfl))) (notFace_of_selects (args := #[]) (mvT hZ (hw _ (List.mem_of_getElem? (i := 93) rfl)))) (mvT hZ (hw _ (List.mem_of_getElem? (i := 93) rfl))) (mvT hZ (hw _ (List.mem_of_getElem? (i := 92) rfl))) (by decide) (backOf (W := 0) (rmGW l Z a0 hw [] b5 (nar .boolean (1 : Int32)) T31_.heap n0 sz F_b5_written) hZ (hw _ (List.mem_of_getElem? (i := 94) rfl)) (hw _ (List.mem_of_getElem? (i := 64) rfl)) (by decide) (by decide)) q34_a q34_c (g := (mkF m 128 #[.val (.int i0), .val (.int i1), .val (.int i2), .val (.int (1 : Int32)), .val (.ref t1), .val (.ref b1), .val (.ref b2), .val (.int (1 : Int32)), .val (.ref b5), .val (.int (0 : Int32))] [(.ref b5)])) rfl (by rw [hml]; rfl) (Steps.refl _) (argsL := []) (rest := []) (lenOf pd__28_29Z rfl) rfl (by show 2 * 0 + _ ≤ _; exact Nat.le_of_eq rfl) (hb hby at_128) (fun _ _ => ⟨rfl, e33_, (by decide : 7 + 0 ≤ _), (by decide : 30 + 0 ≤ _)⟩)
      dsimp only [Pt.U, Pt.locs, Pt.cells, Pt.slots] at X34_ l34_ y34_ z34_ st34_ hQ34_
      subst l34_ y34_ z34_
      obtain ⟨rfl, N34_q, e34_⟩ := hQ34_
      have N34_ := Fr.app N33_ N34_q
      refine Runs.tr st34_ ?_
      replace X34_ := wider X34_ (c' := 7) (s' := 30) (by decide) (by decide)
      show Runs p.tables e below _ (T34_.setTop (mkF m 131 #[.val (.int i0), .val (.int i1), .val (.int i2), .val (.int (1 : Int32)), .val (.ref t1), .val (.ref b1), .val (.ref b2), .val (.int (1 : Int32)), .val (.ref b5), .val (.int (0 : Int32))] [(.int (nar .boolean (nar .boolean (1 : Int32))))]))
      refine Runs.st (fun t' k' => XS.iload X34_.here hx rfl (hb hby at_131) rfl k') ?_
      show Runs p.tables e below _ (T34_.setTop (mkF m 133 #[.val (.int i0), .val (.int i1), .val (.int i2), .val (.int (1 : Int32)), .val (.ref t1), .val (.ref b1), .val (.ref b2), .val (.int (1 : Int32)), .val (.ref b5), .val (.int (0 : Int32))] [(.int (1 : Int32)), (.int (nar .boolean (nar .boolean (1 : Int32))))]))
      refine Runs.st (fun t' k' => XS.icmpNo X34_.here hx rfl (hb hby at_133) rfl (teq (by decide)).2 k') ?_
      show Runs p.tables e below _ (T34_.setTop (mkF m 136 #[.val (.int i0), .val (.int i1), .val (.int i2), .val (.int (1 : Int32)), .val (.ref t1), .val (.ref b1), .val (.ref b2), .val (.int (1 : Int32)), .val (.ref b5), .val (.int (0 : Int32))] []))
      refine Runs.st (fun t' k' => XS.iconst X34_.here hx rfl (hb hby at_136) k') ?_
      show Runs p.tables e below _ (T34_.setTop (mkF m 137 #[.val (.int i0), .val (.int i1), .val (.int i2), .val (.int (1 : Int32)), .val (.ref t1), .val (.ref b1), .val (.ref b2), .val (.int (1 : Int32)), .val (.ref b5), .val (.int (0 : Int32))] [(.int (1 : Int32))]))
      refine Runs.st (fun t' k' => XS.goto X34_.here hx rfl (pc0 := 137) (pc' := 141) rfl (hb hby at_137) (by decide) (by decide) k') ?_
      show Runs p.tables e below _ (T34_.setTop (mkF m 141 #[.val (.int i0), .val (.int i1), .val (.int i2), .val (.int (1 : Int32)), .val (.ref t1), .val (.ref b1), .val (.ref b2), .val (.int (1 : Int32)), .val (.ref b5), .val (.int (0 : Int32))] [(.int (1 : Int32))]))
      refine Runs.retW (vm₁ := T24_.vm) X34_ hS (by rw [e34_]; exact hk) hlk (v := (some (.int (1 : Int32)))) (fun h => by rw [hret] at h; cases h) (by decide) (by decide) ?_ (fun fs hr => retN X34_ hx (t := .boolean) hret (by simp) (hb hby at_141) hr)
      try rw [e34_]
      exact ⟨rfl, N34_⟩
  · skip
    rw [hj]
    show Runs p.tables e below _ (s₁.setTop (mkF m 6 #[.val (.int i0), .val (.int i1), .val (.int i2), .unset, .unset, .unset, .unset, .unset, .unset, .unset] [(.int (2 : Int32))]))
    refine Runs.st (fun t' k' => XS.istoreN X0.here hx rfl (hb hby at_6) rfl (l' := #[.val (.int i0), .val (.int i1), .val (.int i2), .val (.int (2 : Int32)), .unset, .unset, .unset, .unset, .unset, .unset]) rfl k') ?_
    show Runs p.tables e below _ (s₁.setTop (mkF m 7 #[.val (.int i0), .val (.int i1), .val (.int i2), .val (.int (2 : Int32)), .unset, .unset, .unset, .unset, .unset, .unset] []))
    refine Runs.st (fun t' k' => XS.iloadN X0.here hx rfl (hb hby at_7) rfl k') ?_
    show Runs p.tables e below _ (s₁.setTop (mkF m 8 #[.val (.int i0), .val (.int i1), .val (.int i2), .val (.int (2 : Int32)), .unset, .unset, .unset, .unset, .unset, .unset] [(.int (2 : Int32))]))
    refine Runs.st (fun t' k' => XS.ifYes X0.here hx rfl (pc0 := 8) (pc' := 17) rfl (hb hby at_8) rfl ((if0 _ _).trans (feq (by decide)).2) (by decide) (by decide) k') ?_
    show Runs p.tables e below _ (s₁.setTop (mkF m 17 #[.val (.int i0), .val (.int i1), .val (.int i2), .val (.int (2 : Int32)), .unset, .unset, .unset, .unset, .unset, .unset] []))
    refine Runs.st (fun t' k' => XS.iloadN X0.here hx rfl (hb hby at_17) rfl k') ?_
    show Runs p.tables e below _ (s₁.setTop (mkF m 18 #[.val (.int i0), .val (.int i1), .val (.int i2), .val (.int (2 : Int32)), .unset, .unset, .unset, .unset, .unset, .unset] [(.int (2 : Int32))]))
    refine Runs.st (fun t' k' => XS.iconst X0.here hx rfl (hb hby at_18) k') ?_
    show Runs p.tables e below _ (s₁.setTop (mkF m 19 #[.val (.int i0), .val (.int i1), .val (.int i2), .val (.int (2 : Int32)), .unset, .unset, .unset, .unset, .unset, .unset] [(.int (1 : Int32)), (.int (2 : Int32))]))
    refine Runs.st (fun t' k' => XS.icmpYes X0.here hx rfl (pc0 := 19) (pc' := 28) rfl (hb hby at_19) rfl (feq (by decide)).2 (by decide) (by decide) k') ?_
    show Runs p.tables e below _ (s₁.setTop (mkF m 28 #[.val (.int i0), .val (.int i1), .val (.int i2), .val (.int (2 : Int32)), .unset, .unset, .unset, .unset, .unset, .unset] []))
    obtain ⟨T35_, X35_, e35_, st35_⟩ := getS2 X0 hx hZ hown (host := "") (Or.inl (hw _ (List.mem_of_getElem? (i := 97) rfl))) Via.refl e0 (S2.ext old.2) (g := (mkF m 28 #[.val (.int i0), .val (.int i1), .val (.int i2), .val (.int (2 : Int32)), .unset, .unset, .unset, .unset, .unset, .unset] [])) rfl (hb hby at_28)
    refine Runs.st (st35_) ?_
    show Runs p.tables e below _ (T35_.setTop (mkF m 31 #[.val (.int i0), .val (.int i1), .val (.int i2), .val (.int (2 : Int32)), .unset, .unset, .unset, .unset, .unset, .unset] [(.ref t2)]))
    refine Runs.st (fun t' k' => XS.astore X35_.here hx rfl (hb hby at_31) rfl rfl (l' := #[.val (.int i0), .val (.int i1), .val (.int i2), .val (.int (2 : Int32)), .val (.ref t2), .unset, .unset, .unset, .unset, .unset]) rfl k') ?_
    show Runs p.tables e below _ (T35_.setTop (mkF m 33 #[.val (.int i0), .val (.int i1), .val (.int i2), .val (.int (2 : Int32)), .val (.ref t2), .unset, .unset, .unset, .unset, .unset] []))
    refine Runs.st (fun t' k' => XS.iconst X35_.here hx rfl (hb hby at_33) k') ?_
    show Runs p.tables e below _ (T35_.setTop (mkF m 34 #[.val (.int i0), .val (.int i1), .val (.int i2), .val (.int (2 : Int32)), .val (.ref t2), .unset, .unset, .unset, .unset, .unset] [(.int (1 : Int32))]))
    obtain ⟨T36_, h36_, k36_, X36_, e36_, E36_, A36_, st36_⟩ := newP X35_ hx hZ (hw _ (List.mem_of_getElem? (i := 4) rfl)) e35_ (g := (mkF m 34 #[.val (.int i0), .val (.int i1), .val (.int i2), .val (.int (2 : Int32)), .val (.ref t2), .unset, .unset, .unset, .unset, .unset] [(.int (1 : Int32))])) rfl (hb hby at_34) rfl (by decide) (cap := 1) (by decide) (by decide) (by decide) (by decide)
    refine Runs.st (st36_) ?_
    obtain ⟨b1, g36_⟩ : ∃ z, z = h0.size := ⟨_, rfl⟩
    rw [← g36_] at A36_
    try rw [← g36_]
    have g_b1 : n0 ≤ b1 := Nat.le_trans sz (Nat.le_of_eq g36_.symm)
    have sz_b1 : h0.size ≤ b1 := Nat.le_trans K.1 (Nat.le_of_eq g36_.symm)
    replace old := old.ext E36_
    replace sz := Nat.le_trans sz E36_.1
    replace K := K.ext E36_
    replace hk := Nat.le_trans hk E36_.1
    have V_b1 : Arv Z h36_ b1 k36_ .char (1 : Int32) [(.int (0 : Int32))] (.int (0 : Int32)) := (Arv.new A36_ (by decide)).pad (pad_rep [] (.int (0 : Int32)) 1)
    show Runs p.tables e below _ (T36_.setTop (mkF m 36 #[.val (.int i0), .val (.int i1), .val (.int i2), .val (.int (2 : Int32)), .val (.ref t2), .unset, .unset, .unset, .unset, .unset] [(.ref b1)]))
    refine Runs.st (fun t' k' => XS.astore X36_.here hx rfl (hb hby at_36) rfl rfl (l' := #[.val (.int i0), .val (.int i1), .val (.int i2), .val (.int (2 : Int32)), .val (.ref t2), .val (.ref b1), .unset, .unset, .unset, .unset]) rfl k') ?_
    show Runs p.tables e below _ (T36_.setTop (mkF m 38 #[.val (.int i0), .val (.int i1), .val (.int i2), .val (.int (2 : Int32)), .val (.ref t2), .val (.ref b1), .unset, .unset, .unset, .unset] []))
    refine Runs.st (fun t' k' => XS.aload X36_.here hx rfl (hb hby at_38) rfl rfl k') ?_
    show Runs p.tables e below _ (T36_.setTop (mkF m 40 #[.val (.int i0), .val (.int i1), .val (.int i2), .val (.int (2 : Int32)), .val (.ref t2), .val (.ref b1), .unset, .unset, .unset, .unset] [(.ref b1)]))
    refine Runs.st (fun t' k' => XS.iconst X36_.here hx rfl (hb hby at_40) k') ?_
    show Runs p.tables e below _ (T36_.setTop (mkF m 41 #[.val (.int i0), .val (.int i1), .val (.int i2), .val (.int (2 : Int32)), .val (.ref t2), .val (.ref b1), .unset, .unset, .unset, .unset] [(.int (0 : Int32)), (.ref b1)]))
    refine Runs.st (fun t' k' => XS.iloadN X36_.here hx rfl (hb hby at_41) rfl k') ?_
    show Runs p.tables e below _ (T36_.setTop (mkF m 42 #[.val (.int i0), .val (.int i1), .val (.int i2), .val (.int (2 : Int32)), .val (.ref t2), .val (.ref b1), .unset, .unset, .unset, .unset] [(.int i1), (.int (0 : Int32)), (.ref b1)]))
    refine Runs.st (fun t' k' => XS.sipush X36_.here hx rfl (hb hby at_42) k') ?_
    show Runs p.tables e below _ (T36_.setTop (mkF m 45 #[.val (.int i0), .val (.int i1), .val (.int i2), .val (.int (2 : Int32)), .val (.ref t2), .val (.ref b1), .unset, .unset, .unset, .unset] [(.int (255 : Int32)), (.int i1), (.int (0 : Int32)), (.ref b1)]))
    refine Runs.st (fun t' k' => XS.iand X36_.here hx rfl (hb hby at_45) rfl k') ?_
    show Runs p.tables e below _ (T36_.setTop (mkF m 46 #[.val (.int i0), .val (.int i1), .val (.int i2), .val (.int (2 : Int32)), .val (.ref t2), .val (.ref b1), .unset, .unset, .unset, .unset] [(.int (i1 &&& (255 : Int32))), (.int (0 : Int32)), (.ref b1)]))
    refine Runs.st (fun t' k' => XS.i2c X36_.here hx rfl (hb hby at_46) rfl k') ?_
    show Runs p.tables e below _ (T36_.setTop (mkF m 47 #[.val (.int i0), .val (.int i1), .val (.int i2), .val (.int (2 : Int32)), .val (.ref t2), .val (.ref b1), .unset, .unset, .unset, .unset] [(.int ((i1 &&& (255 : Int32)).toUInt32.toUInt16.toUInt32.toInt32)), (.int (0 : Int32)), (.ref b1)]))
    obtain ⟨cl37_, Ar37_, q37_, S37_, M37_, Ha37_, G37_⟩ := V_b1
    have hin37_ : ¬ ((0 : Int32) < 0 ∨ cl37_.slots.size ≤ ((0 : Int32)).toNatClampNeg) := inb_of S37_ ⟨by decide, by decide⟩
    obtain ⟨T37_, h37_, X37_, e37_, W37_, st37_⟩ := stC X36_ hx hZ e36_ Ar37_ (j := (0 : Int32)) hin37_ (g := (mkF m 47 #[.val (.int i0), .val (.int i1), .val (.int i2), .val (.int (2 : Int32)), .val (.ref t2), .val (.ref b1), .unset, .unset, .unset, .unset] [(.int ((i1 &&& (255 : Int32)).toUInt32.toUInt16.toUInt32.toInt32)), (.int (0 : Int32)), (.ref b1)])) rfl rfl (hb hby at_47)
    refine Runs.st (st37_) ?_
    have V_b1 := Arv.set Ar37_ q37_ S37_ M37_ Ha37_ G37_ (fits_nar_char _) W37_ 0 rfl (Nat.le_of_ble_eq_true rfl)
    replace old := old.wr W37_ g_b1
    replace sz := Nat.le_trans sz (Keep.of_wr W37_).1
    replace hk := Nat.le_trans hk (Keep.of_wr W37_).1
    have N37_ := Fr.snoc X37_ N0 g_b1
    replace K := K.wr W37_ (Or.inr sz_b1)
    show Runs p.tables e below _ (T37_.setTop (mkF m 48 #[.val (.int i0), .val (.int i1), .val (.int i2), .val (.int (2 : Int32)), .val (.ref t2), .val (.ref b1), .unset, .unset, .unset, .unset] []))
    obtain ⟨T38_, h38_, X38_, e38_, E38_, A38_, D38_, -, st38_⟩ := newO X37_ hx hZ hown (hw _ (List.mem_of_getElem? (i := 5) rfl)) (hw _ (List.mem_of_getElem? (i := 6) rfl)) (hw _ (List.mem_of_getElem? (i := 7) rfl)) e37_ (g := (mkF m 48 #[.val (.int i0), .val (.int i1), .val (.int i2), .val (.int (2 : Int32)), .val (.ref t2), .val (.ref b1), .unset, .unset, .unset, .unset] [])) rfl (hb hby at_48) (by decide) (by decide)
    refine Runs.st (st38_) ?_
    obtain ⟨b2, g38_⟩ : ∃ z, z = h37_.size := ⟨_, rfl⟩
    rw [← g38_] at A38_ D38_
    try rw [← g38_]
    have g_b2 : n0 ≤ b2 := Nat.le_trans sz (Nat.le_of_eq g38_.symm)
    have sz_b2 : h0.size ≤ b2 := Nat.le_trans K.1 (Nat.le_of_eq g38_.symm)
    have ne_b1_b2 : b1 ≠ b2 := Nat.ne_of_lt (Nat.lt_of_lt_of_le V_b1.lt (Nat.le_of_eq g38_.symm))
    replace old := old.ext E38_
    replace V_b1 := V_b1.ext E38_
    replace sz := Nat.le_trans sz E38_.1
    replace K := K.ext E38_
    replace hk := Nat.le_trans hk E38_.1
    have E_b2 := A38_
    have F_b2_name : Fld Z h38_ b2 "com/example/final_marking/finalmarking/net/Variable" "name" "Ljava/lang/String;" .null := D38_ (Or.inr (hw _ (List.mem_of_getElem? (i := 59) rfl))) (ty := (.object "java/lang/String")) (by decide)
    have F_b2_type : Fld Z h38_ b2 "com/example/final_marking/finalmarking/net/Variable" "type" "Lcom/example/final_marking/finalmarking/net/Variable$Type;" .null := D38_ (Or.inr (hw _ (List.mem_of_getElem? (i := 61) rfl))) (ty := (.object "com/example/final_marking/finalmarking/net/Variable$Type")) (by decide)
    show Runs p.tables e below _ (T38_.setTop (mkF m 51 #[.val (.int i0), .val (.int i1), .val (.int i2), .val (.int (2 : Int32)), .val (.ref t2), .val (.ref b1), .unset, .unset, .unset, .unset] [(.ref b2)]))
    refine Runs.st (fun t' k' => XS.dup X38_.here hx rfl (hb hby at_51) rfl rfl k') ?_
    show Runs p.tables e below _ (T38_.setTop (mkF m 52 #[.val (.int i0), .val (.int i1), .val (.int i2), .val (.int (2 : Int32)), .val (.ref t2), .val (.ref b1), .unset, .unset, .unset, .unset] [(.ref b2), (.ref b2)]))
    obtain ⟨T39_, h39_, X39_, e39_, E39_, A39_, D39_, -, st39_⟩ := newO X38_ hx hZ hown (hw _ (List.mem_of_getElem? (i := 8) rfl)) (hw _ (List.mem_of_getElem? (i := 9) rfl)) (hw _ (List.mem_of_getElem? (i := 10) rfl)) e38_ (g := (mkF m 52 #[.val (.int i0), .val (.int i1), .val (.int i2), .val (.int (2 : Int32)), .val (.ref t2), .val (.ref b1), .unset, .unset, .unset, .unset] [(.ref b2), (.ref b2)])) rfl (hb hby at_52) (by decide) (by decide)
    refine Runs.st (st39_) ?_
    obtain ⟨b3, g39_⟩ : ∃ z, z = h38_.size := ⟨_, rfl⟩
    rw [← g39_] at A39_ D39_
    try rw [← g39_]
    have g_b3 : n0 ≤ b3 := Nat.le_trans sz (Nat.le_of_eq g39_.symm)
    have sz_b3 : h0.size ≤ b3 := Nat.le_trans K.1 (Nat.le_of_eq g39_.symm)
    have ne_b1_b3 : b1 ≠ b3 := Nat.ne_of_lt (Nat.lt_of_lt_of_le V_b1.lt (Nat.le_of_eq g39_.symm))
    have ne_b2_b3 : b2 ≠ b3 := Nat.ne_of_lt (Nat.lt_of_lt_of_le E_b2.lt (Nat.le_of_eq g39_.symm))
    replace old := old.ext E39_
    replace V_b1 := V_b1.ext E39_
    replace E_b2 := E_b2.ext E39_
    replace F_b2_name := F_b2_name.ext E39_
    replace F_b2_type := F_b2_type.ext E39_
    replace sz := Nat.le_trans sz E39_.1
    replace K := K.ext E39_
    replace hk := Nat.le_trans hk E39_.1
    have E_b3 := A39_
    have F_b3_coder : Fld Z h39_ b3 "java/lang/String" "coder" "B" (.int (0 : Int32)) := D39_ (Or.inr (hw _ (List.mem_of_getElem? (i := 34) rfl))) (ty := .byte) (by decide)
    have F_b3_value : Fld Z h39_ b3 "java/lang/String" "value" "[B" .null := D39_ (Or.inr (hw _ (List.mem_of_getElem? (i := 36) rfl))) (ty := (.array .byte)) (by decide)
    show Runs p.tables e below _ (T39_.setTop (mkF m 55 #[.val (.int i0), .val (.int i1), .val (.int i2), .val (.int (2 : Int32)), .val (.ref t2), .val (.ref b1), .unset, .unset, .unset, .unset] [(.ref b3), (.ref b2), (.ref b2)]))
    refine Runs.st (fun t' k' => XS.dup X39_.here hx rfl (hb hby at_55) rfl rfl k') ?_
    show Runs p.tables e below _ (T39_.setTop (mkF m 56 #[.val (.int i0), .val (.int i1), .val (.int i2), .val (.int (2 : Int32)), .val (.ref t2), .val (.ref b1), .unset, .unset, .unset, .unset] [(.ref b3), (.ref b3), (.ref b2), (.ref b2)]))
    refine Runs.st (fun t' k' => XS.aload X39_.here hx rfl (hb hby at_56) rfl rfl k') ?_
    show Runs p.tables e below _ (T39_.setTop (mkF m 58 #[.val (.int i0), .val (.int i1), .val (.int i2), .val (.int (2 : Int32)), .val (.ref t2), .val (.ref b1), .unset, .unset, .unset, .unset] [(.ref b1), (.ref b3), (.ref b3), (.ref b2), (.ref b2)]))
    have kz40_ := K.1
    have gz40_ := sz
    have lt40__b1 := V_b1.lt
    have lt40__b2 := E_b2.lt
    have lt40__b3 := E_b3.lt
    obtain ⟨_, _, ⟨T40_, L40_, k40_, n40_⟩, -, X40_, ⟨Lc40_, hQ40_, l40_, y40_, z40_⟩, st40_⟩ := X39_.specialBack hx (y := (⟨"java/lang/String", "<init>", "([C)V"⟩ : MethodName)) rfl hown (mvT hZ (hw _ (List.mem_of_getElem? (i := 11) rfl))) (mvT hZ (hw _ (List.mem_of_getElem? (i := 12) rfl))) (mvT hZ (hw _ (List.mem_of_getElem? (i := 13) rfl))) (by decide) (backOf (W := 3) (rmIC1 l Z a0 hw [] b3 b1 (nar .char ((i1 &&& (255 : Int32)).toUInt32.toUInt16.toUInt32.toInt32)) _ zc h39_ n0 sz E_b3 F_b3_value F_b3_coder g_b3 V_b1 (Sc.ext old.2) hzc ul) hZ (hw _ (List.mem_of_getElem? (i := 13) rfl)) (hw _ (List.mem_of_getElem? (i := 10) rfl)) (by decide) (by decide)) (g := (mkF m 58 #[.val (.int i0), .val (.int i1), .val (.int i2), .val (.int (2 : Int32)), .val (.ref t2), .val (.ref b1), .unset, .unset, .unset, .unset] [(.ref b1), (.ref b3), (.ref b3), (.ref b2), (.ref b2)])) rfl (by rw [hml]; rfl) (Steps.refl _) (a := b3) (argsL := [(.ref b1)]) (rest := [(.ref b3), (.ref b2), (.ref b2)]) (lenOf pd__28_5bC_29V rfl) rfl (by show 2 * 0 + _ ≤ _; exact Nat.le_of_eq rfl) (hb hby at_58) (fun _ _ => ⟨rfl, e39_, (by decide : 3 + 1 ≤ _), (by decide : 7 + 1 ≤ _)⟩)
    dsimp only [Pt.U, Pt.locs, Pt.cells, Pt.slots] at X40_ l40_ y40_ z40_ st40_ hQ40_
    subst l40_ y40_ z40_
    obtain ⟨rfl, N40_q, K40_, E_b3, F_b3_coder, b4, kb4, szb, F_b3_value, V_b4⟩ := hQ40_
    have N40_ := Fr.app N37_ N40_q
    refine Runs.tr st40_ ?_
    replace X40_ := wider X40_ (c' := 4) (s' := 8) (by decide) (by decide)
    replace old := old.keep K40_ (allS g_b3 all0)
    replace V_b1 := V_b1.keep K40_ (ninS ne_b1_b3 nin0)
    replace E_b2 := E_b2.keep K40_
    replace F_b2_name := F_b2_name.keep K40_ (ninS ne_b2_b3 nin0)
    replace F_b2_type := F_b2_type.keep K40_ (ninS ne_b2_b3 nin0)
    replace sz := Nat.le_trans sz K40_.1
    replace hk := Nat.le_trans hk K40_.1
    replace K := K.trans K40_ (allS (Or.inr sz_b3) all0)
    have sz_b4 : h0.size ≤ b4 := Nat.le_trans kz40_ szb
    have g_b4 : n0 ≤ b4 := Nat.le_trans gz40_ szb
    have ne_b1_b4 : b1 ≠ b4 := Nat.ne_of_lt (Nat.lt_of_lt_of_le lt40__b1 szb)
    have ne_b2_b4 : b2 ≠ b4 := Nat.ne_of_lt (Nat.lt_of_lt_of_le lt40__b2 szb)
    have ne_b3_b4 : b3 ≠ b4 := Nat.ne_of_lt (Nat.lt_of_lt_of_le lt40__b3 szb)
    show Runs p.tables e below _ (T40_.setTop (mkF m 61 #[.val (.int i0), .val (.int i1), .val (.int i2), .val (.int (2 : Int32)), .val (.ref t2), .val (.ref b1), .unset, .unset, .unset, .unset] [(.ref b3), (.ref b2), (.ref b2)]))
    refine Runs.st (fun t' k' => XS.aload X40_.here hx rfl (hb hby at_61) rfl rfl k') ?_
    show Runs p.tables e below _ (T40_.setTop (mkF m 63 #[.val (.int i0), .val (.int i1), .val (.int i2), .val (.int (2 : Int32)), .val (.ref t2), .val (.ref b1), .unset, .unset, .unset, .unset] [(.ref t2), (.ref b3), (.ref b2), (.ref b2)]))
    obtain ⟨_, _, ⟨T41_, L41_, k41_, n41_⟩, -, X41_, hS41_, hg41_, ⟨Lc41_, hQ41_, l41_, y41_, z41_⟩, st41_⟩ := (show Stand p l e room_1 (s.setVm s.vm) m _ below meth c _ _ _ _ from X40_).specialBackS hx (y := (⟨"com/example/final_marking/finalmarking/net/Variable", "<init>", "(Ljava/lang/String;Lcom/example/final_marking/finalmarking/net/Variable$Type;)V"⟩ : MethodName)) rfl hown (mvT hZ (hw _ (List.mem_of_getElem? (i := 37) rfl))) (mvT hZ (hw _ (List.mem_of_getElem? (i := 38) rfl))) (mvT hZ (hw _ (List.mem_of_getElem? (i := 39) rfl))) (by decide) (backOfS (W := 1) (rmVar l Z a0 hw [] b2 b3 t2 b4 _ _ T40_.heap n0 sz E_b2 F_b2_name F_b2_type g_b2 E_b3 F_b3_value V_b4 (Ne.symm ne_b2_b3) (Ne.symm ne_b2_b4)) hZ (hw _ (List.mem_of_getElem? (i := 39) rfl)) (hw _ (List.mem_of_getElem? (i := 7) rfl)) (by decide) (by decide)) (g := (mkF m 63 #[.val (.int i0), .val (.int i1), .val (.int i2), .val (.int (2 : Int32)), .val (.ref t2), .val (.ref b1), .unset, .unset, .unset, .unset] [(.ref t2), (.ref b3), (.ref b2), (.ref b2)])) rfl (by rw [hml]; rfl) (Steps.refl _) (a := b2) (argsL := [(.ref b3), (.ref t2)]) (rest := [(.ref b2)]) (lenOf pd__28Ljava_2flang_2fString_3bLcom_2fexample_2ffinal_marking_2ffinalmarking_2fnet_2fVariable_24Type_3b_29V rfl) rfl (by show 2 * 0 + _ ≤ _; exact Nat.le_of_eq rfl) (hb hby at_63) (fun _ _ => ⟨rfl, rfl, (by decide : 4 + 2 ≤ _), (by decide : 8 + 20 ≤ _)⟩)
    dsimp only [Pt.U] at hS41_ hg41_
    dsimp only [Pt.U, Pt.locs, Pt.cells, Pt.slots] at X41_ l41_ y41_ z41_ st41_ hQ41_
    subst l41_ y41_ z41_
    obtain ⟨rfl, N41_q, K41_, E_b2, F_b2_name, F_b2_type⟩ := hQ41_
    have N41_ := Fr.app N40_ N41_q
    replace hS := foldS (vm0 := s.vm) (T := T40_) hS hk hS41_ hg41_
    have hk := Nat.le_refl T41_.heap.size
    replace hZ : Z.Warmed39 (s.setVm T41_.vm).vm := State.Warmed39.trans (t := s) hZ0 hS.1
    replace hown : (s.setVm T41_.vm).vm.findClass "com/example/final_marking/finalmarking/net/ValueIsBooleanPinLaw" = some m.cls := by rw [show (s.setVm T41_.vm).vm = T41_.vm from rfl, hS.1.alike.findClass]; exact hown0
    refine Runs.tr st41_ ?_
    replace X41_ := wider X41_ (c' := 6) (s' := 28) (by decide) (by decide)
    replace old := old.keep K41_ (allS g_b2 all0)
    replace V_b1 := V_b1.keep K41_ (ninS ne_b1_b2 nin0)
    replace E_b3 := E_b3.keep K41_
    replace F_b3_value := F_b3_value.keep K41_ (ninS (Ne.symm ne_b2_b3) nin0)
    replace V_b4 := V_b4.keep K41_ (ninS (Ne.symm ne_b2_b4) nin0)
    replace sz := Nat.le_trans sz K41_.1
    replace K := K.trans K41_ (allS (Or.inr sz_b2) all0)
    show Runs p.tables e below _ (T41_.setTop (mkF m 66 #[.val (.int i0), .val (.int i1), .val (.int i2), .val (.int (2 : Int32)), .val (.ref t2), .val (.ref b1), .unset, .unset, .unset, .unset] [(.ref b2)]))
    refine Runs.st (fun t' k' => XS.astore X41_.here hx rfl (hb hby at_66) rfl rfl (l' := #[.val (.int i0), .val (.int i1), .val (.int i2), .val (.int (2 : Int32)), .val (.ref t2), .val (.ref b1), .val (.ref b2), .unset, .unset, .unset]) rfl k') ?_
    show Runs p.tables e below _ (T41_.setTop (mkF m 68 #[.val (.int i0), .val (.int i1), .val (.int i2), .val (.int (2 : Int32)), .val (.ref t2), .val (.ref b1), .val (.ref b2), .unset, .unset, .unset] []))
    refine Runs.st (fun t' k' => XS.iloadN X41_.here hx rfl (hb hby at_68) rfl k') ?_
    show Runs p.tables e below _ (T41_.setTop (mkF m 69 #[.val (.int i0), .val (.int i1), .val (.int i2), .val (.int (2 : Int32)), .val (.ref t2), .val (.ref b1), .val (.ref b2), .unset, .unset, .unset] [(.int i2)]))
    refine Runs.st (fun t' k' => XS.iconst X41_.here hx rfl (hb hby at_69) k') ?_
    show Runs p.tables e below _ (T41_.setTop (mkF m 70 #[.val (.int i0), .val (.int i1), .val (.int i2), .val (.int (2 : Int32)), .val (.ref t2), .val (.ref b1), .val (.ref b2), .unset, .unset, .unset] [(.int (1 : Int32)), (.int i2)]))
    refine Runs.st (fun t' k' => XS.iand X41_.here hx rfl (hb hby at_70) rfl k') ?_
    show Runs p.tables e below _ (T41_.setTop (mkF m 71 #[.val (.int i0), .val (.int i1), .val (.int i2), .val (.int (2 : Int32)), .val (.ref t2), .val (.ref b1), .val (.ref b2), .unset, .unset, .unset] [(.int (i2 &&& (1 : Int32)))]))
    by_cases c71 : (i2 &&& (1 : Int32)) = (0 : Int32)
    · skip
      refine Runs.st (fun t' k' => XS.ifYes X41_.here hx rfl (pc0 := 71) (pc' := 78) rfl (hb hby at_71) rfl ((if0 _ _).trans (teq c71).1) (by decide) (by decide) k') ?_
      show Runs p.tables e below _ (T41_.setTop (mkF m 78 #[.val (.int i0), .val (.int i1), .val (.int i2), .val (.int (2 : Int32)), .val (.ref t2), .val (.ref b1), .val (.ref b2), .unset, .unset, .unset] []))
      refine Runs.st (fun t' k' => XS.iconst X41_.here hx rfl (hb hby at_78) k') ?_
      show Runs p.tables e below _ (T41_.setTop (mkF m 79 #[.val (.int i0), .val (.int i1), .val (.int i2), .val (.int (2 : Int32)), .val (.ref t2), .val (.ref b1), .val (.ref b2), .unset, .unset, .unset] [(.int (0 : Int32))]))
      refine Runs.st (fun t' k' => XS.istore X41_.here hx rfl (hb hby at_79) rfl (l' := #[.val (.int i0), .val (.int i1), .val (.int i2), .val (.int (2 : Int32)), .val (.ref t2), .val (.ref b1), .val (.ref b2), .val (.int (0 : Int32)), .unset, .unset]) rfl k') ?_
      show Runs p.tables e below _ (T41_.setTop (mkF m 81 #[.val (.int i0), .val (.int i1), .val (.int i2), .val (.int (2 : Int32)), .val (.ref t2), .val (.ref b1), .val (.ref b2), .val (.int (0 : Int32)), .unset, .unset] []))
      obtain ⟨T42_, h42_, X42_, e42_, E42_, A42_, D42_, -, st42_⟩ := newO X41_ hx hZ hown (hw _ (List.mem_of_getElem? (i := 62) rfl)) (hw _ (List.mem_of_getElem? (i := 63) rfl)) (hw _ (List.mem_of_getElem? (i := 64) rfl)) rfl (g := (mkF m 81 #[.val (.int i0), .val (.int i1), .val (.int i2), .val (.int (2 : Int32)), .val (.ref t2), .val (.ref b1), .val (.ref b2), .val (.int (0 : Int32)), .unset, .unset] [])) rfl (hb hby at_81) (by decide) (by decide)
      refine Runs.st (st42_) ?_
      obtain ⟨b5, g42_⟩ : ∃ z, z = T41_.heap.size := ⟨_, rfl⟩
      rw [← g42_] at A42_ D42_
      try rw [← g42_]
      have g_b5 : n0 ≤ b5 := Nat.le_trans sz (Nat.le_of_eq g42_.symm)
      have sz_b5 : h0.size ≤ b5 := Nat.le_trans K.1 (Nat.le_of_eq g42_.symm)
      have ne_b2_b5 : b2 ≠ b5 := Nat.ne_of_lt (Nat.lt_of_lt_of_le E_b2.lt (Nat.le_of_eq g42_.symm))
      replace old := old.ext E42_
      replace E_b2 := E_b2.ext E42_
      replace F_b2_type := F_b2_type.ext E42_
      replace sz := Nat.le_trans sz E42_.1
      replace K := K.ext E42_
      replace hk := Nat.le_trans hk E42_.1
      have E_b5 := A42_
      have F_b5_variable : Fld Z h42_ b5 "com/example/final_marking/finalmarking/net/Guard$Value" "variable" "Lcom/example/final_marking/finalmarking/net/Variable;" .null := D42_ (Or.inr (hw _ (List.mem_of_getElem? (i := 70) rfl))) (ty := (.object "com/example/final_marking/finalmarking/net/Variable")) (by decide)
      have F_b5_written : Fld Z h42_ b5 "com/example/final_marking/finalmarking/net/Guard$Value" "written" "Z" (.int (0 : Int32)) := D42_ (Or.inr (hw _ (List.mem_of_getElem? (i := 72) rfl))) (ty := .boolean) (by decide)
      show Runs p.tables e below _ (T42_.setTop (mkF m 84 #[.val (.int i0), .val (.int i1), .val (.int i2), .val (.int (2 : Int32)), .val (.ref t2), .val (.ref b1), .val (.ref b2), .val (.int (0 : Int32)), .unset, .unset] [(.ref b5)]))
      refine Runs.st (fun t' k' => XS.dup X42_.here hx rfl (hb hby at_84) rfl rfl k') ?_
      show Runs p.tables e below _ (T42_.setTop (mkF m 85 #[.val (.int i0), .val (.int i1), .val (.int i2), .val (.int (2 : Int32)), .val (.ref t2), .val (.ref b1), .val (.ref b2), .val (.int (0 : Int32)), .unset, .unset] [(.ref b5), (.ref b5)]))
      refine Runs.st (fun t' k' => XS.aload X42_.here hx rfl (hb hby at_85) rfl rfl k') ?_
      show Runs p.tables e below _ (T42_.setTop (mkF m 87 #[.val (.int i0), .val (.int i1), .val (.int i2), .val (.int (2 : Int32)), .val (.ref t2), .val (.ref b1), .val (.ref b2), .val (.int (0 : Int32)), .unset, .unset] [(.ref b2), (.ref b5), (.ref b5)]))
      refine Runs.st (fun t' k' => XS.iload X42_.here hx rfl (hb hby at_87) rfl k') ?_
      show Runs p.tables e below _ (T42_.setTop (mkF m 89 #[.val (.int i0), .val (.int i1), .val (.int i2), .val (.int (2 : Int32)), .val (.ref t2), .val (.ref b1), .val (.ref b2), .val (.int (0 : Int32)), .unset, .unset] [(.int (0 : Int32)), (.ref b2), (.ref b5), (.ref b5)]))
      obtain ⟨_, _, ⟨T43_, L43_, k43_, n43_⟩, -, X43_, ⟨Lc43_, hQ43_, l43_, y43_, z43_⟩, st43_⟩ := X42_.specialBack hx (y := (⟨"com/example/final_marking/finalmarking/net/Guard$Value", "<init>", "(Lcom/example/final_marking/finalmarking/net/Variable;Z)V"⟩ : MethodName)) rfl hown (mvT hZ (hw _ (List.mem_of_getElem? (i := 65) rfl))) (mvT hZ (hw _ (List.mem_of_getElem? (i := 66) rfl))) (mvT hZ (hw _ (List.mem_of_getElem? (i := 67) rfl))) (by decide) (backOf (W := 1) (rmVal l Z a0 hw [] b5 b2 (0 : Int32) h42_ n0 sz E_b5 F_b5_variable F_b5_written g_b5) hZ (hw _ (List.mem_of_getElem? (i := 67) rfl)) (hw _ (List.mem_of_getElem? (i := 64) rfl)) (by decide) (by decide)) (g := (mkF m 89 #[.val (.int i0), .val (.int i1), .val (.int i2), .val (.int (2 : Int32)), .val (.ref t2), .val (.ref b1), .val (.ref b2), .val (.int (0 : Int32)), .unset, .unset] [(.int (0 : Int32)), (.ref b2), (.ref b5), (.ref b5)])) rfl (by rw [hml]; rfl) (Steps.refl _) (a := b5) (argsL := [(.ref b2), (.int (0 : Int32))]) (rest := [(.ref b5)]) (lenOf pd__28Lcom_2fexample_2ffinal_marking_2ffinalmarking_2fnet_2fVariable_3bZ_29V rfl) rfl (by show 2 * 0 + _ ≤ _; exact Nat.le_of_eq rfl) (hb hby at_89) (fun _ _ => ⟨rfl, e42_, (by decide : 7 + 0 ≤ _), (by decide : 30 + 0 ≤ _)⟩)
      dsimp only [Pt.U, Pt.locs, Pt.cells, Pt.slots] at X43_ l43_ y43_ z43_ st43_ hQ43_
      subst l43_ y43_ z43_
      obtain ⟨rfl, N43_q, K43_, E_b5, F_b5_variable, F_b5_written⟩ := hQ43_
      have N43_ := Fr.app N41_ N43_q
      refine Runs.tr st43_ ?_
      replace X43_ := wider X43_ (c' := 7) (s' := 30) (by decide) (by decide)
      replace old := old.keep K43_ (allS g_b5 all0)
      replace E_b2 := E_b2.keep K43_
      replace F_b2_type := F_b2_type.keep K43_ (ninS ne_b2_b5 nin0)
      replace sz := Nat.le_trans sz K43_.1
      replace hk := Nat.le_trans hk K43_.1
      replace K := K.trans K43_ (allS (Or.inr sz_b5) all0)
      show Runs p.tables e below _ (T43_.setTop (mkF m 92 #[.val (.int i0), .val (.int i1), .val (.int i2), .val (.int (2 : Int32)), .val (.ref t2), .val (.ref b1), .val (.ref b2), .val (.int (0 : Int32)), .unset, .unset] [(.ref b5)]))
      refine Runs.st (fun t' k' => XS.astore X43_.here hx rfl (hb hby at_92) rfl rfl (l' := #[.val (.int i0), .val (.int i1), .val (.int i2), .val (.int (2 : Int32)), .val (.ref t2), .val (.ref b1), .val (.ref b2), .val (.int (0 : Int32)), .val (.ref b5), .unset]) rfl k') ?_
      show Runs p.tables e below _ (T43_.setTop (mkF m 94 #[.val (.int i0), .val (.int i1), .val (.int i2), .val (.int (2 : Int32)), .val (.ref t2), .val (.ref b1), .val (.ref b2), .val (.int (0 : Int32)), .val (.ref b5), .unset] []))
      refine Runs.st (fun t' k' => XS.iloadN X43_.here hx rfl (hb hby at_94) rfl k') ?_
      show Runs p.tables e below _ (T43_.setTop (mkF m 95 #[.val (.int i0), .val (.int i1), .val (.int i2), .val (.int (2 : Int32)), .val (.ref t2), .val (.ref b1), .val (.ref b2), .val (.int (0 : Int32)), .val (.ref b5), .unset] [(.int (2 : Int32))]))
      refine Runs.st (fun t' k' => XS.iconst X43_.here hx rfl (hb hby at_95) k') ?_
      show Runs p.tables e below _ (T43_.setTop (mkF m 96 #[.val (.int i0), .val (.int i1), .val (.int i2), .val (.int (2 : Int32)), .val (.ref t2), .val (.ref b1), .val (.ref b2), .val (.int (0 : Int32)), .val (.ref b5), .unset] [(.int (2 : Int32)), (.int (2 : Int32))]))
      refine Runs.st (fun t' k' => XS.icmpNo X43_.here hx rfl (hb hby at_96) rfl (teq rfl).2 k') ?_
      show Runs p.tables e below _ (T43_.setTop (mkF m 99 #[.val (.int i0), .val (.int i1), .val (.int i2), .val (.int (2 : Int32)), .val (.ref t2), .val (.ref b1), .val (.ref b2), .val (.int (0 : Int32)), .val (.ref b5), .unset] []))
      refine Runs.st (fun t' k' => XS.iconst X43_.here hx rfl (hb hby at_99) k') ?_
      show Runs p.tables e below _ (T43_.setTop (mkF m 100 #[.val (.int i0), .val (.int i1), .val (.int i2), .val (.int (2 : Int32)), .val (.ref t2), .val (.ref b1), .val (.ref b2), .val (.int (0 : Int32)), .val (.ref b5), .unset] [(.int (1 : Int32))]))
      refine Runs.st (fun t' k' => XS.goto X43_.here hx rfl (pc0 := 100) (pc' := 104) rfl (hb hby at_100) (by decide) (by decide) k') ?_
      show Runs p.tables e below _ (T43_.setTop (mkF m 104 #[.val (.int i0), .val (.int i1), .val (.int i2), .val (.int (2 : Int32)), .val (.ref t2), .val (.ref b1), .val (.ref b2), .val (.int (0 : Int32)), .val (.ref b5), .unset] [(.int (1 : Int32))]))
      refine Runs.st (fun t' k' => XS.istore X43_.here hx rfl (hb hby at_104) rfl (l' := #[.val (.int i0), .val (.int i1), .val (.int i2), .val (.int (2 : Int32)), .val (.ref t2), .val (.ref b1), .val (.ref b2), .val (.int (0 : Int32)), .val (.ref b5), .val (.int (1 : Int32))]) rfl k') ?_
      show Runs p.tables e below _ (T43_.setTop (mkF m 106 #[.val (.int i0), .val (.int i1), .val (.int i2), .val (.int (2 : Int32)), .val (.ref t2), .val (.ref b1), .val (.ref b2), .val (.int (0 : Int32)), .val (.ref b5), .val (.int (1 : Int32))] []))
      refine Runs.st (fun t' k' => XS.aload X43_.here hx rfl (hb hby at_106) rfl rfl k') ?_
      show Runs p.tables e below _ (T43_.setTop (mkF m 108 #[.val (.int i0), .val (.int i1), .val (.int i2), .val (.int (2 : Int32)), .val (.ref t2), .val (.ref b1), .val (.ref b2), .val (.int (0 : Int32)), .val (.ref b5), .val (.int (1 : Int32))] [(.ref b5)]))
      obtain ⟨cq44_, kq44_, q44_a, q44_b, q44_c⟩ := isOf hZ rfl E_b5
      obtain ⟨_, _, ⟨T44_, L44_, k44_, n44_⟩, -, X44_, ⟨Lc44_, hQ44_, l44_, y44_, z44_⟩, st44_⟩ := X43_.virtualBack hx (y := (⟨"com/example/final_marking/finalmarking/net/Guard$Value", "isBoolean", "()Z"⟩ : MethodName)) (z := (⟨"com/example/final_marking/finalmarking/net/Guard$Value", "isBoolean", "()Z"⟩ : MethodName)) hown (mvT hZ (hw _ (List.mem_of_getElem? (i := 73) rfl))) (mvT hZ (hw _ (List.mem_of_getElem? (i := 74) rfl))) (notFace_of_selects (args := #[]) (mvT hZ (hw _ (List.mem_of_getElem? (i := 76) rfl)))) (mvT hZ (hw _ (List.mem_of_getElem? (i := 76) rfl))) (mvT hZ (hw _ (List.mem_of_getElem? (i := 75) rfl))) (by decide) (backOf (W := 0) (rmIsB l Z a0 hw [] b5 b2 t2 t2 (1 : Int32) T43_.heap n0 sz F_b5_variable E_b2 F_b2_type (S2.ext old.2) (Or.inl ⟨rfl, rfl⟩)) hZ (hw _ (List.mem_of_getElem? (i := 77) rfl)) (hw _ (List.mem_of_getElem? (i := 64) rfl)) (by decide) (by decide)) q44_a q44_c (g := (mkF m 108 #[.val (.int i0), .val (.int i1), .val (.int i2), .val (.int (2 : Int32)), .val (.ref t2), .val (.ref b1), .val (.ref b2), .val (.int (0 : Int32)), .val (.ref b5), .val (.int (1 : Int32))] [(.ref b5)])) rfl (by rw [hml]; rfl) (Steps.refl _) (argsL := []) (rest := []) (lenOf pd__28_29Z rfl) rfl (by show 2 * 0 + _ ≤ _; exact Nat.le_of_eq rfl) (hb hby at_108) (fun _ _ => ⟨rfl, rfl, (by decide : 7 + 0 ≤ _), (by decide : 30 + 0 ≤ _)⟩)
      dsimp only [Pt.U, Pt.locs, Pt.cells, Pt.slots] at X44_ l44_ y44_ z44_ st44_ hQ44_
      subst l44_ y44_ z44_
      obtain ⟨rfl, N44_q, e44_⟩ := hQ44_
      have N44_ := Fr.app N43_ N44_q
      refine Runs.tr st44_ ?_
      replace X44_ := wider X44_ (c' := 7) (s' := 30) (by decide) (by decide)
      show Runs p.tables e below _ (T44_.setTop (mkF m 111 #[.val (.int i0), .val (.int i1), .val (.int i2), .val (.int (2 : Int32)), .val (.ref t2), .val (.ref b1), .val (.ref b2), .val (.int (0 : Int32)), .val (.ref b5), .val (.int (1 : Int32))] [(.int (1 : Int32))]))
      refine Runs.st (fun t' k' => XS.iload X44_.here hx rfl (hb hby at_111) rfl k') ?_
      show Runs p.tables e below _ (T44_.setTop (mkF m 113 #[.val (.int i0), .val (.int i1), .val (.int i2), .val (.int (2 : Int32)), .val (.ref t2), .val (.ref b1), .val (.ref b2), .val (.int (0 : Int32)), .val (.ref b5), .val (.int (1 : Int32))] [(.int (1 : Int32)), (.int (1 : Int32))]))
      refine Runs.st (fun t' k' => XS.icmpNo X44_.here hx rfl (hb hby at_113) rfl (teq rfl).2 k') ?_
      show Runs p.tables e below _ (T44_.setTop (mkF m 116 #[.val (.int i0), .val (.int i1), .val (.int i2), .val (.int (2 : Int32)), .val (.ref t2), .val (.ref b1), .val (.ref b2), .val (.int (0 : Int32)), .val (.ref b5), .val (.int (1 : Int32))] []))
      refine Runs.st (fun t' k' => XS.aload X44_.here hx rfl (hb hby at_116) rfl rfl k') ?_
      show Runs p.tables e below _ (T44_.setTop (mkF m 118 #[.val (.int i0), .val (.int i1), .val (.int i2), .val (.int (2 : Int32)), .val (.ref t2), .val (.ref b1), .val (.ref b2), .val (.int (0 : Int32)), .val (.ref b5), .val (.int (1 : Int32))] [(.ref b5)]))
      obtain ⟨cq45_, kq45_, q45_a, q45_b, q45_c⟩ := isOf hZ e44_ E_b5
      obtain ⟨_, _, ⟨T45_, L45_, k45_, n45_⟩, -, X45_, ⟨Lc45_, hQ45_, l45_, y45_, z45_⟩, st45_⟩ := X44_.virtualBack hx (y := (⟨"com/example/final_marking/finalmarking/net/Guard$Value", "variable", "()Lcom/example/final_marking/finalmarking/net/Variable;"⟩ : MethodName)) (z := (⟨"com/example/final_marking/finalmarking/net/Guard$Value", "variable", "()Lcom/example/final_marking/finalmarking/net/Variable;"⟩ : MethodName)) hown (mvT hZ (hw _ (List.mem_of_getElem? (i := 85) rfl))) (mvT hZ (hw _ (List.mem_of_getElem? (i := 86) rfl))) (notFace_of_selects (args := #[]) (mvT hZ (hw _ (List.mem_of_getElem? (i := 88) rfl)))) (mvT hZ (hw _ (List.mem_of_getElem? (i := 88) rfl))) (mvT hZ (hw _ (List.mem_of_getElem? (i := 87) rfl))) (by decide) (backOf (W := 0) (rmGV l Z a0 hw [] b5 b2 T43_.heap n0 sz F_b5_variable) hZ (hw _ (List.mem_of_getElem? (i := 89) rfl)) (hw _ (List.mem_of_getElem? (i := 64) rfl)) (by decide) (by decide)) q45_a q45_c (g := (mkF m 118 #[.val (.int i0), .val (.int i1), .val (.int i2), .val (.int (2 : Int32)), .val (.ref t2), .val (.ref b1), .val (.ref b2), .val (.int (0 : Int32)), .val (.ref b5), .val (.int (1 : Int32))] [(.ref b5)])) rfl (by rw [hml]; rfl) (Steps.refl _) (argsL := []) (rest := []) (lenOf pd__28_29Lcom_2fexample_2ffinal_marking_2ffinalmarking_2fnet_2fVariable_3b rfl) rfl (by show 2 * 0 + _ ≤ _; exact Nat.le_of_eq rfl) (hb hby at_118) (fun _ _ => ⟨rfl, e44_, (by decide : 7 + 0 ≤ _), (by decide : 30 + 0 ≤ _)⟩)
      dsimp only [Pt.U, Pt.locs, Pt.cells, Pt.slots] at X45_ l45_ y45_ z45_ st45_ hQ45_
      subst l45_ y45_ z45_
      obtain ⟨rfl, N45_q, e45_⟩ := hQ45_
      have N45_ := Fr.app N44_ N45_q
      refine Runs.tr st45_ ?_
      replace X45_ := wider X45_ (c' := 7) (s' := 30) (by decide) (by decide)
      show Runs p.tables e below _ (T45_.setTop (mkF m 121 #[.val (.int i0), .val (.int i1), .val (.int i2), .val (.int (2 : Int32)), .val (.ref t2), .val (.ref b1), .val (.ref b2), .val (.int (0 : Int32)), .val (.ref b5), .val (.int (1 : Int32))] [(.ref b2)]))
      refine Runs.st (fun t' k' => XS.aload X45_.here hx rfl (hb hby at_121) rfl rfl k') ?_
      show Runs p.tables e below _ (T45_.setTop (mkF m 123 #[.val (.int i0), .val (.int i1), .val (.int i2), .val (.int (2 : Int32)), .val (.ref t2), .val (.ref b1), .val (.ref b2), .val (.int (0 : Int32)), .val (.ref b5), .val (.int (1 : Int32))] [(.ref b2), (.ref b2)]))
      refine Runs.st (fun t' k' => Jvm.RoadKit.acmp (g := (mkF m 123 #[.val (.int i0), .val (.int i1), .val (.int i2), .val (.int (2 : Int32)), .val (.ref t2), .val (.ref b1), .val (.ref b2), .val (.int (0 : Int32)), .val (.ref b5), .val (.int (1 : Int32))] [(.ref b2), (.ref b2)])) X45_ hx rfl rfl rfl (pc0 := 123) (pc' := 126) (same := true) rfl (hb hby at_123) rfl (decide_eq_true rfl) (by decide) (by decide) k') ?_
      show Runs p.tables e below _ (T45_.setTop (mkF m 126 #[.val (.int i0), .val (.int i1), .val (.int i2), .val (.int (2 : Int32)), .val (.ref t2), .val (.ref b1), .val (.ref b2), .val (.int (0 : Int32)), .val (.ref b5), .val (.int (1 : Int32))] []))
      refine Runs.st (fun t' k' => XS.aload X45_.here hx rfl (hb hby at_126) rfl rfl k') ?_
      show Runs p.tables e below _ (T45_.setTop (mkF m 128 #[.val (.int i0), .val (.int i1), .val (.int i2), .val (.int (2 : Int32)), .val (.ref t2), .val (.ref b1), .val (.ref b2), .val (.int (0 : Int32)), .val (.ref b5), .val (.int (1 : Int32))] [(.ref b5)]))
      obtain ⟨cq46_, kq46_, q46_a, q46_b, q46_c⟩ := isOf hZ e45_ E_b5
      obtain ⟨_, _, ⟨T46_, L46_, k46_, n46_⟩, -, X46_, ⟨Lc46_, hQ46_, l46_, y46_, z46_⟩, st46_⟩ := X45_.virtualBack hx (y := (⟨"com/example/final_marking/finalmarking/net/Guard$Value", "written", "()Z"⟩ : MethodName)) (z := (⟨"com/example/final_marking/finalmarking/net/Guard$Value", "written", "()Z"⟩ : MethodName)) hown (mvT hZ (hw _ (List.mem_of_getElem? (i := 90) rfl))) (mvT hZ (hw _ (List.mem_of_getElem? (i := 91) rfl))) (notFace_of_selects (args := #[]) (mvT hZ (hw _ (List.mem_of_getElem? (i := 93) rfl)))) (mvT hZ (hw _ (List.mem_of_getElem? (i := 93) rfl))) (mvT hZ (hw _ (List.mem_of_getElem? (i := 92) rfl))) (by decide) (backOf (W := 0) (rmGW l Z a0 hw [] b5 (nar .boolean (0 : Int32)) T43_.heap n0 sz F_b5_written) hZ (hw _ (List.mem_of_getElem? (i := 94) rfl)) (hw _ (List.mem_of_getElem? (i := 64) rfl)) (by decide) (by decide)) q46_a q46_c (g := (mkF m 128 #[.val (.int i0), .val (.int i1), .val (.int i2), .val (.int (2 : Int32)), .val (.ref t2), .val (.ref b1), .val (.ref b2), .val (.int (0 : Int32)), .val (.ref b5), .val (.int (1 : Int32))] [(.ref b5)])) rfl (by rw [hml]; rfl) (Steps.refl _) (argsL := []) (rest := []) (lenOf pd__28_29Z rfl) rfl (by show 2 * 0 + _ ≤ _; exact Nat.le_of_eq rfl) (hb hby at_128) (fun _ _ => ⟨rfl, e45_, (by decide : 7 + 0 ≤ _), (by decide : 30 + 0 ≤ _)⟩)
      dsimp only [Pt.U, Pt.locs, Pt.cells, Pt.slots] at X46_ l46_ y46_ z46_ st46_ hQ46_
      subst l46_ y46_ z46_
      obtain ⟨rfl, N46_q, e46_⟩ := hQ46_
      have N46_ := Fr.app N45_ N46_q
      refine Runs.tr st46_ ?_
      replace X46_ := wider X46_ (c' := 7) (s' := 30) (by decide) (by decide)
      show Runs p.tables e below _ (T46_.setTop (mkF m 131 #[.val (.int i0), .val (.int i1), .val (.int i2), .val (.int (2 : Int32)), .val (.ref t2), .val (.ref b1), .val (.ref b2), .val (.int (0 : Int32)), .val (.ref b5), .val (.int (1 : Int32))] [(.int (nar .boolean (nar .boolean (0 : Int32))))]))
      refine Runs.st (fun t' k' => XS.iload X46_.here hx rfl (hb hby at_131) rfl k') ?_
      show Runs p.tables e below _ (T46_.setTop (mkF m 133 #[.val (.int i0), .val (.int i1), .val (.int i2), .val (.int (2 : Int32)), .val (.ref t2), .val (.ref b1), .val (.ref b2), .val (.int (0 : Int32)), .val (.ref b5), .val (.int (1 : Int32))] [(.int (0 : Int32)), (.int (nar .boolean (nar .boolean (0 : Int32))))]))
      refine Runs.st (fun t' k' => XS.icmpNo X46_.here hx rfl (hb hby at_133) rfl (teq (by decide)).2 k') ?_
      show Runs p.tables e below _ (T46_.setTop (mkF m 136 #[.val (.int i0), .val (.int i1), .val (.int i2), .val (.int (2 : Int32)), .val (.ref t2), .val (.ref b1), .val (.ref b2), .val (.int (0 : Int32)), .val (.ref b5), .val (.int (1 : Int32))] []))
      refine Runs.st (fun t' k' => XS.iconst X46_.here hx rfl (hb hby at_136) k') ?_
      show Runs p.tables e below _ (T46_.setTop (mkF m 137 #[.val (.int i0), .val (.int i1), .val (.int i2), .val (.int (2 : Int32)), .val (.ref t2), .val (.ref b1), .val (.ref b2), .val (.int (0 : Int32)), .val (.ref b5), .val (.int (1 : Int32))] [(.int (1 : Int32))]))
      refine Runs.st (fun t' k' => XS.goto X46_.here hx rfl (pc0 := 137) (pc' := 141) rfl (hb hby at_137) (by decide) (by decide) k') ?_
      show Runs p.tables e below _ (T46_.setTop (mkF m 141 #[.val (.int i0), .val (.int i1), .val (.int i2), .val (.int (2 : Int32)), .val (.ref t2), .val (.ref b1), .val (.ref b2), .val (.int (0 : Int32)), .val (.ref b5), .val (.int (1 : Int32))] [(.int (1 : Int32))]))
      refine Runs.retW (vm₁ := T41_.vm) X46_ hS (by rw [e46_]; exact hk) hlk (v := (some (.int (1 : Int32)))) (fun h => by rw [hret] at h; cases h) (by decide) (by decide) ?_ (fun fs hr => retN X46_ hx (t := .boolean) hret (by simp) (hb hby at_141) hr)
      try rw [e46_]
      exact ⟨rfl, N46_⟩
    · skip
      refine Runs.st (fun t' k' => XS.ifNo X41_.here hx rfl (hb hby at_71) rfl ((if0 _ _).trans (feq c71).1) k') ?_
      show Runs p.tables e below _ (T41_.setTop (mkF m 74 #[.val (.int i0), .val (.int i1), .val (.int i2), .val (.int (2 : Int32)), .val (.ref t2), .val (.ref b1), .val (.ref b2), .unset, .unset, .unset] []))
      refine Runs.st (fun t' k' => XS.iconst X41_.here hx rfl (hb hby at_74) k') ?_
      show Runs p.tables e below _ (T41_.setTop (mkF m 75 #[.val (.int i0), .val (.int i1), .val (.int i2), .val (.int (2 : Int32)), .val (.ref t2), .val (.ref b1), .val (.ref b2), .unset, .unset, .unset] [(.int (1 : Int32))]))
      refine Runs.st (fun t' k' => XS.goto X41_.here hx rfl (pc0 := 75) (pc' := 79) rfl (hb hby at_75) (by decide) (by decide) k') ?_
      show Runs p.tables e below _ (T41_.setTop (mkF m 79 #[.val (.int i0), .val (.int i1), .val (.int i2), .val (.int (2 : Int32)), .val (.ref t2), .val (.ref b1), .val (.ref b2), .unset, .unset, .unset] [(.int (1 : Int32))]))
      refine Runs.st (fun t' k' => XS.istore X41_.here hx rfl (hb hby at_79) rfl (l' := #[.val (.int i0), .val (.int i1), .val (.int i2), .val (.int (2 : Int32)), .val (.ref t2), .val (.ref b1), .val (.ref b2), .val (.int (1 : Int32)), .unset, .unset]) rfl k') ?_
      show Runs p.tables e below _ (T41_.setTop (mkF m 81 #[.val (.int i0), .val (.int i1), .val (.int i2), .val (.int (2 : Int32)), .val (.ref t2), .val (.ref b1), .val (.ref b2), .val (.int (1 : Int32)), .unset, .unset] []))
      obtain ⟨T47_, h47_, X47_, e47_, E47_, A47_, D47_, -, st47_⟩ := newO X41_ hx hZ hown (hw _ (List.mem_of_getElem? (i := 62) rfl)) (hw _ (List.mem_of_getElem? (i := 63) rfl)) (hw _ (List.mem_of_getElem? (i := 64) rfl)) rfl (g := (mkF m 81 #[.val (.int i0), .val (.int i1), .val (.int i2), .val (.int (2 : Int32)), .val (.ref t2), .val (.ref b1), .val (.ref b2), .val (.int (1 : Int32)), .unset, .unset] [])) rfl (hb hby at_81) (by decide) (by decide)
      refine Runs.st (st47_) ?_
      obtain ⟨b5, g47_⟩ : ∃ z, z = T41_.heap.size := ⟨_, rfl⟩
      rw [← g47_] at A47_ D47_
      try rw [← g47_]
      have g_b5 : n0 ≤ b5 := Nat.le_trans sz (Nat.le_of_eq g47_.symm)
      have sz_b5 : h0.size ≤ b5 := Nat.le_trans K.1 (Nat.le_of_eq g47_.symm)
      have ne_b2_b5 : b2 ≠ b5 := Nat.ne_of_lt (Nat.lt_of_lt_of_le E_b2.lt (Nat.le_of_eq g47_.symm))
      replace old := old.ext E47_
      replace E_b2 := E_b2.ext E47_
      replace F_b2_type := F_b2_type.ext E47_
      replace sz := Nat.le_trans sz E47_.1
      replace K := K.ext E47_
      replace hk := Nat.le_trans hk E47_.1
      have E_b5 := A47_
      have F_b5_variable : Fld Z h47_ b5 "com/example/final_marking/finalmarking/net/Guard$Value" "variable" "Lcom/example/final_marking/finalmarking/net/Variable;" .null := D47_ (Or.inr (hw _ (List.mem_of_getElem? (i := 70) rfl))) (ty := (.object "com/example/final_marking/finalmarking/net/Variable")) (by decide)
      have F_b5_written : Fld Z h47_ b5 "com/example/final_marking/finalmarking/net/Guard$Value" "written" "Z" (.int (0 : Int32)) := D47_ (Or.inr (hw _ (List.mem_of_getElem? (i := 72) rfl))) (ty := .boolean) (by decide)
      show Runs p.tables e below _ (T47_.setTop (mkF m 84 #[.val (.int i0), .val (.int i1), .val (.int i2), .val (.int (2 : Int32)), .val (.ref t2), .val (.ref b1), .val (.ref b2), .val (.int (1 : Int32)), .unset, .unset] [(.ref b5)]))
      refine Runs.st (fun t' k' => XS.dup X47_.here hx rfl (hb hby at_84) rfl rfl k') ?_
      show Runs p.tables e below _ (T47_.setTop (mkF m 85 #[.val (.int i0), .val (.int i1), .val (.int i2), .val (.int (2 : Int32)), .val (.ref t2), .val (.ref b1), .val (.ref b2), .val (.int (1 : Int32)), .unset, .unset] [(.ref b5), (.ref b5)]))
      refine Runs.st (fun t' k' => XS.aload X47_.here hx rfl (hb hby at_85) rfl rfl k') ?_
      show Runs p.tables e below _ (T47_.setTop (mkF m 87 #[.val (.int i0), .val (.int i1), .val (.int i2), .val (.int (2 : Int32)), .val (.ref t2), .val (.ref b1), .val (.ref b2), .val (.int (1 : Int32)), .unset, .unset] [(.ref b2), (.ref b5), (.ref b5)]))
      refine Runs.st (fun t' k' => XS.iload X47_.here hx rfl (hb hby at_87) rfl k') ?_
      show Runs p.tables e below _ (T47_.setTop (mkF m 89 #[.val (.int i0), .val (.int i1), .val (.int i2), .val (.int (2 : Int32)), .val (.ref t2), .val (.ref b1), .val (.ref b2), .val (.int (1 : Int32)), .unset, .unset] [(.int (1 : Int32)), (.ref b2), (.ref b5), (.ref b5)]))
      obtain ⟨_, _, ⟨T48_, L48_, k48_, n48_⟩, -, X48_, ⟨Lc48_, hQ48_, l48_, y48_, z48_⟩, st48_⟩ := X47_.specialBack hx (y := (⟨"com/example/final_marking/finalmarking/net/Guard$Value", "<init>", "(Lcom/example/final_marking/finalmarking/net/Variable;Z)V"⟩ : MethodName)) rfl hown (mvT hZ (hw _ (List.mem_of_getElem? (i := 65) rfl))) (mvT hZ (hw _ (List.mem_of_getElem? (i := 66) rfl))) (mvT hZ (hw _ (List.mem_of_getElem? (i := 67) rfl))) (by decide) (backOf (W := 1) (rmVal l Z a0 hw [] b5 b2 (1 : Int32) h47_ n0 sz E_b5 F_b5_variable F_b5_written g_b5) hZ (hw _ (List.mem_of_getElem? (i := 67) rfl)) (hw _ (List.mem_of_getElem? (i := 64) rfl)) (by decide) (by decide)) (g := (mkF m 89 #[.val (.int i0), .val (.int i1), .val (.int i2), .val (.int (2 : Int32)), .val (.ref t2), .val (.ref b1), .val (.ref b2), .val (.int (1 : Int32)), .unset, .unset] [(.int (1 : Int32)), (.ref b2), (.ref b5), (.ref b5)])) rfl (by rw [hml]; rfl) (Steps.refl _) (a := b5) (argsL := [(.ref b2), (.int (1 : Int32))]) (rest := [(.ref b5)]) (lenOf pd__28Lcom_2fexample_2ffinal_marking_2ffinalmarking_2fnet_2fVariable_3bZ_29V rfl) rfl (by show 2 * 0 + _ ≤ _; exact Nat.le_of_eq rfl) (hb hby at_89) (fun _ _ => ⟨rfl, e47_, (by decide : 7 + 0 ≤ _), (by decide : 30 + 0 ≤ _)⟩)
      dsimp only [Pt.U, Pt.locs, Pt.cells, Pt.slots] at X48_ l48_ y48_ z48_ st48_ hQ48_
      subst l48_ y48_ z48_
      obtain ⟨rfl, N48_q, K48_, E_b5, F_b5_variable, F_b5_written⟩ := hQ48_
      have N48_ := Fr.app N41_ N48_q
      refine Runs.tr st48_ ?_
      replace X48_ := wider X48_ (c' := 7) (s' := 30) (by decide) (by decide)
      replace old := old.keep K48_ (allS g_b5 all0)
      replace E_b2 := E_b2.keep K48_
      replace F_b2_type := F_b2_type.keep K48_ (ninS ne_b2_b5 nin0)
      replace sz := Nat.le_trans sz K48_.1
      replace hk := Nat.le_trans hk K48_.1
      replace K := K.trans K48_ (allS (Or.inr sz_b5) all0)
      show Runs p.tables e below _ (T48_.setTop (mkF m 92 #[.val (.int i0), .val (.int i1), .val (.int i2), .val (.int (2 : Int32)), .val (.ref t2), .val (.ref b1), .val (.ref b2), .val (.int (1 : Int32)), .unset, .unset] [(.ref b5)]))
      refine Runs.st (fun t' k' => XS.astore X48_.here hx rfl (hb hby at_92) rfl rfl (l' := #[.val (.int i0), .val (.int i1), .val (.int i2), .val (.int (2 : Int32)), .val (.ref t2), .val (.ref b1), .val (.ref b2), .val (.int (1 : Int32)), .val (.ref b5), .unset]) rfl k') ?_
      show Runs p.tables e below _ (T48_.setTop (mkF m 94 #[.val (.int i0), .val (.int i1), .val (.int i2), .val (.int (2 : Int32)), .val (.ref t2), .val (.ref b1), .val (.ref b2), .val (.int (1 : Int32)), .val (.ref b5), .unset] []))
      refine Runs.st (fun t' k' => XS.iloadN X48_.here hx rfl (hb hby at_94) rfl k') ?_
      show Runs p.tables e below _ (T48_.setTop (mkF m 95 #[.val (.int i0), .val (.int i1), .val (.int i2), .val (.int (2 : Int32)), .val (.ref t2), .val (.ref b1), .val (.ref b2), .val (.int (1 : Int32)), .val (.ref b5), .unset] [(.int (2 : Int32))]))
      refine Runs.st (fun t' k' => XS.iconst X48_.here hx rfl (hb hby at_95) k') ?_
      show Runs p.tables e below _ (T48_.setTop (mkF m 96 #[.val (.int i0), .val (.int i1), .val (.int i2), .val (.int (2 : Int32)), .val (.ref t2), .val (.ref b1), .val (.ref b2), .val (.int (1 : Int32)), .val (.ref b5), .unset] [(.int (2 : Int32)), (.int (2 : Int32))]))
      refine Runs.st (fun t' k' => XS.icmpNo X48_.here hx rfl (hb hby at_96) rfl (teq rfl).2 k') ?_
      show Runs p.tables e below _ (T48_.setTop (mkF m 99 #[.val (.int i0), .val (.int i1), .val (.int i2), .val (.int (2 : Int32)), .val (.ref t2), .val (.ref b1), .val (.ref b2), .val (.int (1 : Int32)), .val (.ref b5), .unset] []))
      refine Runs.st (fun t' k' => XS.iconst X48_.here hx rfl (hb hby at_99) k') ?_
      show Runs p.tables e below _ (T48_.setTop (mkF m 100 #[.val (.int i0), .val (.int i1), .val (.int i2), .val (.int (2 : Int32)), .val (.ref t2), .val (.ref b1), .val (.ref b2), .val (.int (1 : Int32)), .val (.ref b5), .unset] [(.int (1 : Int32))]))
      refine Runs.st (fun t' k' => XS.goto X48_.here hx rfl (pc0 := 100) (pc' := 104) rfl (hb hby at_100) (by decide) (by decide) k') ?_
      show Runs p.tables e below _ (T48_.setTop (mkF m 104 #[.val (.int i0), .val (.int i1), .val (.int i2), .val (.int (2 : Int32)), .val (.ref t2), .val (.ref b1), .val (.ref b2), .val (.int (1 : Int32)), .val (.ref b5), .unset] [(.int (1 : Int32))]))
      refine Runs.st (fun t' k' => XS.istore X48_.here hx rfl (hb hby at_104) rfl (l' := #[.val (.int i0), .val (.int i1), .val (.int i2), .val (.int (2 : Int32)), .val (.ref t2), .val (.ref b1), .val (.ref b2), .val (.int (1 : Int32)), .val (.ref b5), .val (.int (1 : Int32))]) rfl k') ?_
      show Runs p.tables e below _ (T48_.setTop (mkF m 106 #[.val (.int i0), .val (.int i1), .val (.int i2), .val (.int (2 : Int32)), .val (.ref t2), .val (.ref b1), .val (.ref b2), .val (.int (1 : Int32)), .val (.ref b5), .val (.int (1 : Int32))] []))
      refine Runs.st (fun t' k' => XS.aload X48_.here hx rfl (hb hby at_106) rfl rfl k') ?_
      show Runs p.tables e below _ (T48_.setTop (mkF m 108 #[.val (.int i0), .val (.int i1), .val (.int i2), .val (.int (2 : Int32)), .val (.ref t2), .val (.ref b1), .val (.ref b2), .val (.int (1 : Int32)), .val (.ref b5), .val (.int (1 : Int32))] [(.ref b5)]))
      obtain ⟨cq49_, kq49_, q49_a, q49_b, q49_c⟩ := isOf hZ rfl E_b5
      obtain ⟨_, _, ⟨T49_, L49_, k49_, n49_⟩, -, X49_, ⟨Lc49_, hQ49_, l49_, y49_, z49_⟩, st49_⟩ := X48_.virtualBack hx (y := (⟨"com/example/final_marking/finalmarking/net/Guard$Value", "isBoolean", "()Z"⟩ : MethodName)) (z := (⟨"com/example/final_marking/finalmarking/net/Guard$Value", "isBoolean", "()Z"⟩ : MethodName)) hown (mvT hZ (hw _ (List.mem_of_getElem? (i := 73) rfl))) (mvT hZ (hw _ (List.mem_of_getElem? (i := 74) rfl))) (notFace_of_selects (args := #[]) (mvT hZ (hw _ (List.mem_of_getElem? (i := 76) rfl)))) (mvT hZ (hw _ (List.mem_of_getElem? (i := 76) rfl))) (mvT hZ (hw _ (List.mem_of_getElem? (i := 75) rfl))) (by decide) (backOf (W := 0) (rmIsB l Z a0 hw [] b5 b2 t2 t2 (1 : Int32) T48_.heap n0 sz F_b5_variable E_b2 F_b2_type (S2.ext old.2) (Or.inl ⟨rfl, rfl⟩)) hZ (hw _ (List.mem_of_getElem? (i := 77) rfl)) (hw _ (List.mem_of_getElem? (i := 64) rfl)) (by decide) (by decide)) q49_a q49_c (g := (mkF m 108 #[.val (.int i0), .val (.int i1), .val (.int i2), .val (.int (2 : Int32)), .val (.ref t2), .val (.ref b1), .val (.ref b2), .val (.int (1 : Int32)), .val (.ref b5), .val (.int (1 : Int32))] [(.ref b5)])) rfl (by rw [hml]; rfl) (Steps.refl _) (argsL := []) (rest := []) (lenOf pd__28_29Z rfl) rfl (by show 2 * 0 + _ ≤ _; exact Nat.le_of_eq rfl) (hb hby at_108) (fun _ _ => ⟨rfl, rfl, (by decide : 7 + 0 ≤ _), (by decide : 30 + 0 ≤ _)⟩)
      dsimp only [Pt.U, Pt.locs, Pt.cells, Pt.slots] at X49_ l49_ y49_ z49_ st49_ hQ49_
      subst l49_ y49_ z49_
      obtain ⟨rfl, N49_q, e49_⟩ := hQ49_
      have N49_ := Fr.app N48_ N49_q
      refine Runs.tr st49_ ?_
      replace X49_ := wider X49_ (c' := 7) (s' := 30) (by decide) (by decide)
      show Runs p.tables e below _ (T49_.setTop (mkF m 111 #[.val (.int i0), .val (.int i1), .val (.int i2), .val (.int (2 : Int32)), .val (.ref t2), .val (.ref b1), .val (.ref b2), .val (.int (1 : Int32)), .val (.ref b5), .val (.int (1 : Int32))] [(.int (1 : Int32))]))
      refine Runs.st (fun t' k' => XS.iload X49_.here hx rfl (hb hby at_111) rfl k') ?_
      show Runs p.tables e below _ (T49_.setTop (mkF m 113 #[.val (.int i0), .val (.int i1), .val (.int i2), .val (.int (2 : Int32)), .val (.ref t2), .val (.ref b1), .val (.ref b2), .val (.int (1 : Int32)), .val (.ref b5), .val (.int (1 : Int32))] [(.int (1 : Int32)), (.int (1 : Int32))]))
      refine Runs.st (fun t' k' => XS.icmpNo X49_.here hx rfl (hb hby at_113) rfl (teq rfl).2 k') ?_
      show Runs p.tables e below _ (T49_.setTop (mkF m 116 #[.val (.int i0), .val (.int i1), .val (.int i2), .val (.int (2 : Int32)), .val (.ref t2), .val (.ref b1), .val (.ref b2), .val (.int (1 : Int32)), .val (.ref b5), .val (.int (1 : Int32))] []))
      refine Runs.st (fun t' k' => XS.aload X49_.here hx rfl (hb hby at_116) rfl rfl k') ?_
      show Runs p.tables e below _ (T49_.setTop (mkF m 118 #[.val (.int i0), .val (.int i1), .val (.int i2), .val (.int (2 : Int32)), .val (.ref t2), .val (.ref b1), .val (.ref b2), .val (.int (1 : Int32)), .val (.ref b5), .val (.int (1 : Int32))] [(.ref b5)]))
      obtain ⟨cq50_, kq50_, q50_a, q50_b, q50_c⟩ := isOf hZ e49_ E_b5
      obtain ⟨_, _, ⟨T50_, L50_, k50_, n50_⟩, -, X50_, ⟨Lc50_, hQ50_, l50_, y50_, z50_⟩, st50_⟩ := X49_.virtualBack hx (y := (⟨"com/example/final_marking/finalmarking/net/Guard$Value", "variable", "()Lcom/example/final_marking/finalmarking/net/Variable;"⟩ : MethodName)) (z := (⟨"com/example/final_marking/finalmarking/net/Guard$Value", "variable", "()Lcom/example/final_marking/finalmarking/net/Variable;"⟩ : MethodName)) hown (mvT hZ (hw _ (List.mem_of_getElem? (i := 85) rfl))) (mvT hZ (hw _ (List.mem_of_getElem? (i := 86) rfl))) (notFace_of_selects (args := #[]) (mvT hZ (hw _ (List.mem_of_getElem? (i := 88) rfl)))) (mvT hZ (hw _ (List.mem_of_getElem? (i := 88) rfl))) (mvT hZ (hw _ (List.mem_of_getElem? (i := 87) rfl))) (by decide) (backOf (W := 0) (rmGV l Z a0 hw [] b5 b2 T48_.heap n0 sz F_b5_variable) hZ (hw _ (List.mem_of_getElem? (i := 89) rfl)) (hw _ (List.mem_of_getElem? (i := 64) rfl)) (by decide) (by decide)) q50_a q50_c (g := (mkF m 118 #[.val (.int i0), .val (.int i1), .val (.int i2), .val (.int (2 : Int32)), .val (.ref t2), .val (.ref b1), .val (.ref b2), .val (.int (1 : Int32)), .val (.ref b5), .val (.int (1 : Int32))] [(.ref b5)])) rfl (by rw [hml]; rfl) (Steps.refl _) (argsL := []) (rest := []) (lenOf pd__28_29Lcom_2fexample_2ffinal_marking_2ffinalmarking_2fnet_2fVariable_3b rfl) rfl (by show 2 * 0 + _ ≤ _; exact Nat.le_of_eq rfl) (hb hby at_118) (fun _ _ => ⟨rfl, e49_, (by decide : 7 + 0 ≤ _), (by decide : 30 + 0 ≤ _)⟩)
      dsimp only [Pt.U, Pt.locs, Pt.cells, Pt.slots] at X50_ l50_ y50_ z50_ st50_ hQ50_
      subst l50_ y50_ z50_
      obtain ⟨rfl, N50_q, e50_⟩ := hQ50_
      have N50_ := Fr.app N49_ N50_q
      refine Runs.tr st50_ ?_
      replace X50_ := wider X50_ (c' := 7) (s' := 30) (by decide) (by decide)
      show Runs p.tables e below _ (T50_.setTop (mkF m 121 #[.val (.int i0), .val (.int i1), .val (.int i2), .val (.int (2 : Int32)), .val (.ref t2), .val (.ref b1), .val (.ref b2), .val (.int (1 : Int32)), .val (.ref b5), .val (.int (1 : Int32))] [(.ref b2)]))
      refine Runs.st (fun t' k' => XS.aload X50_.here hx rfl (hb hby at_121) rfl rfl k') ?_
      show Runs p.tables e below _ (T50_.setTop (mkF m 123 #[.val (.int i0), .val (.int i1), .val (.int i2), .val (.int (2 : Int32)), .val (.ref t2), .val (.ref b1), .val (.ref b2), .val (.int (1 : Int32)), .val (.ref b5), .val (.int (1 : Int32))] [(.ref b2), (.ref b2)]))
      refine Runs.st (fun t' k' => Jvm.RoadKit.acmp (g := (mkF m 123 #[.val (.int i0), .val (.int i1), .val (.int i2), .val (.int (2 : Int32)), .val (.ref t2), .val (.ref b1), .val (.ref b2), .val (.int (1 : Int32)), .val (.ref b5), .val (.int (1 : Int32))] [(.ref b2), (.ref b2)])) X50_ hx rfl rfl rfl (pc0 := 123) (pc' := 126) (same := true) rfl (hb hby at_123) rfl (decide_eq_true rfl) (by decide) (by decide) k') ?_
      show Runs p.tables e below _ (T50_.setTop (mkF m 126 #[.val (.int i0), .val (.int i1), .val (.int i2), .val (.int (2 : Int32)), .val (.ref t2), .val (.ref b1), .val (.ref b2), .val (.int (1 : Int32)), .val (.ref b5), .val (.int (1 : Int32))] []))
      refine Runs.st (fun t' k' => XS.aload X50_.here hx rfl (hb hby at_126) rfl rfl k') ?_
      show Runs p.tables e below _ (T50_.setTop (mkF m 128 #[.val (.int i0), .val (.int i1), .val (.int i2), .val (.int (2 : Int32)), .val (.ref t2), .val (.ref b1), .val (.ref b2), .val (.int (1 : Int32)), .val (.ref b5), .val (.int (1 : Int32))] [(.ref b5)]))
      obtain ⟨cq51_, kq51_, q51_a, q51_b, q51_c⟩ := isOf hZ e50_ E_b5
      obtain ⟨_, _, ⟨T51_, L51_, k51_, n51_⟩, -, X51_, ⟨Lc51_, hQ51_, l51_, y51_, z51_⟩, st51_⟩ := X50_.virtualBack hx (y := (⟨"com/example/final_marking/finalmarking/net/Guard$Value", "written", "()Z"⟩ : MethodName)) (z := (⟨"com/example/final_marking/finalmarking/net/Guard$Value", "written", "()Z"⟩ : MethodName)) hown (mvT hZ (hw _ (List.mem_of_getElem? (i := 90) rfl))) (mvT hZ (hw _ (List.mem_of_getElem? (i := 91) rfl))) (notFace_of_selects (args := #[]) (mvT hZ (hw _ (List.mem_of_getElem? (i := 93) rfl)))) (mvT hZ (hw _ (List.mem_of_getElem? (i := 93) rfl))) (mvT hZ (hw _ (List.mem_of_getElem? (i := 92) rfl))) (by decide) (backOf (W := 0) (rmGW l Z a0 hw [] b5 (nar .boolean (1 : Int32)) T48_.heap n0 sz F_b5_written) hZ (hw _ (List.mem_of_getElem? (i := 94) rfl)) (hw _ (List.mem_of_getElem? (i := 64) rfl)) (by decide) (by decide)) q51_a q51_c (g := (mkF m 128 #[.val (.int i0), .val (.int i1), .val (.int i2), .val (.int (2 : Int32)), .val (.ref t2), .val (.ref b1), .val (.ref b2), .val (.int (1 : Int32)), .val (.ref b5), .val (.int (1 : Int32))] [(.ref b5)])) rfl (by rw [hml]; rfl) (Steps.refl _) (argsL := []) (rest := []) (lenOf pd__28_29Z rfl) rfl (by show 2 * 0 + _ ≤ _; exact Nat.le_of_eq rfl) (hb hby at_128) (fun _ _ => ⟨rfl, e50_, (by decide : 7 + 0 ≤ _), (by decide : 30 + 0 ≤ _)⟩)
      dsimp only [Pt.U, Pt.locs, Pt.cells, Pt.slots] at X51_ l51_ y51_ z51_ st51_ hQ51_
      subst l51_ y51_ z51_
      obtain ⟨rfl, N51_q, e51_⟩ := hQ51_
      have N51_ := Fr.app N50_ N51_q
      refine Runs.tr st51_ ?_
      replace X51_ := wider X51_ (c' := 7) (s' := 30) (by decide) (by decide)
      show Runs p.tables e below _ (T51_.setTop (mkF m 131 #[.val (.int i0), .val (.int i1), .val (.int i2), .val (.int (2 : Int32)), .val (.ref t2), .val (.ref b1), .val (.ref b2), .val (.int (1 : Int32)), .val (.ref b5), .val (.int (1 : Int32))] [(.int (nar .boolean (nar .boolean (1 : Int32))))]))
      refine Runs.st (fun t' k' => XS.iload X51_.here hx rfl (hb hby at_131) rfl k') ?_
      show Runs p.tables e below _ (T51_.setTop (mkF m 133 #[.val (.int i0), .val (.int i1), .val (.int i2), .val (.int (2 : Int32)), .val (.ref t2), .val (.ref b1), .val (.ref b2), .val (.int (1 : Int32)), .val (.ref b5), .val (.int (1 : Int32))] [(.int (1 : Int32)), (.int (nar .boolean (nar .boolean (1 : Int32))))]))
      refine Runs.st (fun t' k' => XS.icmpNo X51_.here hx rfl (hb hby at_133) rfl (teq (by decide)).2 k') ?_
      show Runs p.tables e below _ (T51_.setTop (mkF m 136 #[.val (.int i0), .val (.int i1), .val (.int i2), .val (.int (2 : Int32)), .val (.ref t2), .val (.ref b1), .val (.ref b2), .val (.int (1 : Int32)), .val (.ref b5), .val (.int (1 : Int32))] []))
      refine Runs.st (fun t' k' => XS.iconst X51_.here hx rfl (hb hby at_136) k') ?_
      show Runs p.tables e below _ (T51_.setTop (mkF m 137 #[.val (.int i0), .val (.int i1), .val (.int i2), .val (.int (2 : Int32)), .val (.ref t2), .val (.ref b1), .val (.ref b2), .val (.int (1 : Int32)), .val (.ref b5), .val (.int (1 : Int32))] [(.int (1 : Int32))]))
      refine Runs.st (fun t' k' => XS.goto X51_.here hx rfl (pc0 := 137) (pc' := 141) rfl (hb hby at_137) (by decide) (by decide) k') ?_
      show Runs p.tables e below _ (T51_.setTop (mkF m 141 #[.val (.int i0), .val (.int i1), .val (.int i2), .val (.int (2 : Int32)), .val (.ref t2), .val (.ref b1), .val (.ref b2), .val (.int (1 : Int32)), .val (.ref b5), .val (.int (1 : Int32))] [(.int (1 : Int32))]))
      refine Runs.retW (vm₁ := T41_.vm) X51_ hS (by rw [e51_]; exact hk) hlk (v := (some (.int (1 : Int32)))) (fun h => by rw [hret] at h; cases h) (by decide) (by decide) ?_ (fun fs hr => retN X51_ hx (t := .boolean) hret (by simp) (hb hby at_141) hr)
      try rw [e51_]
      exact ⟨rfl, N51_⟩
set_option maxRecDepth 65536 in
set_option maxHeartbeats 40000000 in
theorem comes_1 {Post : Tables → Env → Array Value → State → Outcome → State → Prop} (hpost : ∀ tb e args s v u, (limb_1_1.after args s (.returned v) u = true ∧ limb_1_2.after args s (.returned v) u = true ∧ True) → ReturnedEndW s (.returned v) u (Jvm.fieldLocs frame_1_writes args s ++ Jvm.arrayLocs frame_1_arrays args s ++ Jvm.staticLocs frame_1_statics s) 24 1152 → Post tb e args s (.returned v) u) :
    ArmFor flags0 classFile x code maxLocals ret World_1 tables_1 room_1 Calls_1 rest_1 Pre_1 Post := by
  intro l hfl _ _ p e ha hc hk s m args below hf hA hF happ hP
  obtain ⟨hcalls, hrest, hpre⟩ := hP
  obtain ⟨-, -, -, hnamed, -, -, -, hat⟩ := (Spec.applies_iff hf).mp happ
  obtain ⟨hg, hn⟩ := and_e (Cond.before_iff.mp (show (Jvm.Cond.and given_1 narrow_1).before args s = true from hpre))
  obtain ⟨gc, gr⟩ := and_e hg
  obtain ⟨gi0, gr⟩ := and_e gr
  obtain ⟨gi1, gr⟩ := and_e gr
  have gi2 := gr
  obtain ⟨w0, w1, w2, rfl⟩ : ∃ w0 w1 w2 : Value, args = #[w0, w1, w2] := by
    have hs : args.size = 3 := by simpa [Cond.value, given_1] using gc
    obtain ⟨L⟩ := args
    match L, hs with
    | [w0, w1, w2], _ => exact ⟨w0, w1, w2, rfl⟩
  have hw := fun d (hd : d ∈ tables_1) => atoms_spec (ws := Jvm.Cond.code x code maxLocals ret :: tables_1) hat d (List.mem_cons_of_mem _ hd)
  have hfit : Fit s := fun {y c} hc i hi => by
    obtain ⟨ha, rfl⟩ := Array.getElem?_eq_some_iff.mp hc
    have q := List.all_eq_true.mp ((Array.all_eq_true_iff_forall_mem.mp hF) _ (Array.getElem_mem ha)) i (List.mem_range.mpr hi)
    simpa [Array.getElem?_eq_getElem hi] using q
  obtain ⟨hsets, hown0⟩ := atoms_of _ (rest_1_c_eq ▸ (show rest_1_c.before _ s = true from hrest))
  have hr0 := Cond.before_iff.mp hown0
  obtain ⟨i0, ei0⟩ := is_v gi0
  obtain rfl : w0 = (.int i0) := Option.some.inj ei0
  obtain ⟨i1, ei1⟩ := is_v gi1
  obtain rfl : w1 = (.int i1) := Option.some.inj ei1
  obtain ⟨i2, ei2⟩ := is_v gi2
  obtain rfl : w2 = (.int i2) := Option.some.inj ei2
  obtain ⟨c0, hn⟩ := and_e hn
  obtain ⟨c1, hn⟩ := and_e hn
  obtain ⟨c2, hn⟩ := and_e hn
  obtain ⟨c3, hn⟩ := and_e hn
  obtain ⟨c4, hn⟩ := and_e hn
  have c5 := hn
  obtain ⟨t0, ev0, S0, E0⟩ := the_static c0 (hw _ (List.mem_of_getElem? (i := 2) rfl)) (hw _ (List.mem_of_getElem? (i := 3) rfl))
  have O0 := the_int ev0 c2
  obtain ⟨t1, ev1, S1, E1⟩ := the_static c4 (hw _ (List.mem_of_getElem? (i := 2) rfl)) (hw _ (List.mem_of_getElem? (i := 96) rfl))
  have O1 := the_int ev1 c5
  obtain ⟨t2, ev2, S2, E2⟩ := the_static c1 (hw _ (List.mem_of_getElem? (i := 2) rfl)) (hw _ (List.mem_of_getElem? (i := 84) rfl))
  have O2 := the_int ev2 c3
  obtain ⟨zc, ezc⟩ := is_v (Cond.before_iff.mp (hsets _ (List.mem_of_getElem? (i := 1) rfl)))
  have Sc := Sta.start ezc (Or.inl (hsets _ (List.mem_of_getElem? (i := 0) rfl)))
  have hzc : ¬ zc = 0 := fun q => by
    have u := not_v (Cond.before_iff.mp (hsets _ (List.mem_of_getElem? (i := 2) rfl)))
    rw [q] at ezc
    have w := eq_i ezc (Term.int_eval (0 : Int32)) rfl
    rw [u] at w; cases w
  obtain ⟨fm, efm, hfm⟩ := isR_v (Cond.before_iff.mp (hsets _ (List.mem_of_getElem? (i := 8) rfl)))
  have Sf := Sta.start efm (Or.inl (hsets _ (List.mem_of_getElem? (i := 7) rfl)))
  obtain ⟨n, o, h1, h2, h3, _, L, rfl, ⟨rfl, N⟩, hq⟩ := rm0 l s _ hw tables_1 i0 i1 i2 t0 t1 t2 zc s.heap s.heap.size (Nat.le_refl _) (Old.start s) Sc hzc S0 O0 S1 O1 S2 O2 p e ha hc hk s m _ below hf ((Spec.applies_iff_loose hf).mp happ).1 ⟨rfl, State.Warmed39.refl s, rfl⟩ trivial
  refine ⟨n, _, h1, h2, h3, hpost _ _ _ _ _ _ ⟨Cond.after_iff.mpr rfl, Cond.after_iff.mpr (eq_i res_at (Term.int_eval (1)) rfl), trivial⟩ ⟨hq.1, hq.2.1, hq.2.2.1, (hq.2.2.2.sift fun y hy => Or.inr (N y hy)).mono (by decide) (by decide)⟩⟩
theorem main_1_1 : Claimed_1_1 := comes_1 fun _ _ _ _ _ _ h hF => ⟨h.1, hF⟩
theorem main_1_2 : Claimed_1_2 := comes_1 fun _ _ _ _ _ _ h hF => ⟨h.2.1, hF⟩
end Jvm.Pilot.@@N@@
namespace Jvm.Pilot.@@N@@
open Jvm Jvm.ClassFile Sem Op Lib Jvm.Free Jvm.Stand Jvm.Pilot.@@N@@.Jvm.D
/-! MADE BY PROGRAM (witnessworld.py) out of the Statement's table words and the real class files: 26 classes; the members and pool entries that the words name. The judged class is class 1, her method 1. -/
namespace start1
open Jvm.ClassFile
def u (s : String) : CpInfo := .utf8 (stringToUtf16 s)
/-- a pool by its gaps: so many unusable entries, then the entry; so many at the end -/
def gap : Nat → List CpInfo → List CpInfo
  | 0, r => r
  | n + 1, r => .unusable :: gap n r
def poolList (es : List (Nat × CpInfo)) (last : Nat) : List CpInfo := es.foldr (fun e r => gap e.1 (e.2 :: r)) (gap last [])
def pool (es : List (Nat × CpInfo)) (last : Nat) : Array CpInfo := ⟨poolList es last⟩
def fileOf (pool : Array CpInfo) (this : Nat) (attrs : Array Attribute := #[]) (ms : Array MethodInfo := #[]) (fl : Nat := 33) (sup : Nat := 0) (ifs : Array Nat := #[]) (fds : Array FieldInfo := #[]) : ClassFile where
  minorVersion := 0
  majorVersion := 65
  constantPool := pool
  accessFlags := fl
  thisClass := this
  superClass := sup
  interfaces := ifs
  fields := fds
  methods := ms
  attributes := attrs
def plain (name : String) (sup : Option ClassId) : Class where
  name := name
  kind := .ordinary
  loader := none
  accessFlags := 33
  super := sup
  interfaces := #[]
  cf := none
  fields := #[]
  methods := #[]
  instanceTypes := #[]
  staticTypes := #[]
  resolved := #[]
  callSites := []
  init := .initialized
  statics := none
  mirror := none

def pool0 : Array CpInfo := pool [(5, u "<init>"), (0, u "()V"), (1, .class_ 10), (1, u "java/lang/Object")] 113

def k0c0 : Code := { maxStack := 0, maxLocals := 1, code := object_method_1_code, exceptionTable := #[], attributes := #[] }
def k0m0 : Method := { name := "<init>", desc := "()V", sig := { parameters := [], returnType := none }, accessFlags := 1, code := some k0c0 }
/-- java/lang/Object -/
def k0 : Class := { plain "java/lang/Object" none with
  accessFlags := 33
  interfaces := #[]
  cf := some (fileOf pool0 8 #[] #[{ accessFlags := 1, nameIndex := 5, descriptorIndex := 6, attributes := #[] }] 33 0 #[] #[])
  fields := #[]
  methods := #[k0m0]
  instanceTypes := #[]
  staticTypes := #[]
  resolved := Array.replicate 124 none
  statics := none }

def pool1 : Array CpInfo := pool [(2, .class_ 4), (1, u "java/lang/Object"), (0, u "<init>"), (0, u "()V"), (0, .integer 2147483647), (0, .fieldref 9 10), (0, .class_ 11), (0, .nameAndType 12 13), (0, u "com/example/final_marking/finalmarking/net/Variable$Type"), (0, u "REAL"), (0, u "Lcom/example/final_marking/finalmarking/net/Variable$Type;"), (0, .fieldref 9 15), (0, .nameAndType 16 13), (0, u "INTEGER"), (0, .fieldref 9 18), (0, .nameAndType 19 13), (0, u "BOOLEAN"), (0, .class_ 21), (0, u "com/example/final_marking/finalmarking/net/Variable"), (0, .class_ 23), (0, u "java/lang/String"), (0, .methodref 22 25), (0, .nameAndType 5 26), (0, u "([C)V"), (0, .methodref 20 28), (0, .nameAndType 5 29), (0, u "(Ljava/lang/String;Lcom/example/final_marking/finalmarking/net/Variable$Type;)V"), (0, .class_ 31), (0, u "com/example/final_marking/finalmarking/net/Guard$Value"), (0, .methodref 30 33), (0, .nameAndType 5 34), (0, u "(Lcom/example/final_marking/finalmarking/net/Variable;Z)V"), (0, .methodref 30 36), (0, .nameAndType 37 38), (0, u "isBoolean"), (0, u "()Z"), (0, .methodref 30 40), (0, .nameAndType 41 42), (0, u "variable"), (0, u "()Lcom/example/final_marking/finalmarking/net/Variable;"), (0, .methodref 30 44), (0, .nameAndType 45 38), (0, u "written"), (0, .class_ 47), (0, u "com/example/final_marking/finalmarking/net/ValueIsBooleanPinLaw"), (2, u "law"), (0, u "(III)Z")] 10

def k1m0 : Method := { name := "<init>", desc := "()V", sig := { parameters := [], returnType := none }, accessFlags := 1, code := none }
def k1c1 : Code := { maxStack := 5, maxLocals := 10, code := code, exceptionTable := #[], attributes := #[] }
def k1m1 : Method := { name := "law", desc := "(III)Z", sig := { parameters := [.int, .int, .int], returnType := some .boolean }, accessFlags := 9, code := some k1c1 }
/-- com/example/final_marking/finalmarking/net/ValueIsBooleanPinLaw -/
def k1 : Class := { plain "com/example/final_marking/finalmarking/net/ValueIsBooleanPinLaw" (some 0) with
  accessFlags := 49
  interfaces := #[]
  cf := some (fileOf pool1 46 #[] #[{ accessFlags := 1, nameIndex := 5, descriptorIndex := 6, attributes := #[] }, { accessFlags := 9, nameIndex := 50, descriptorIndex := 51, attributes := #[] }] 49 2 #[] #[])
  fields := #[]
  methods := #[k1m0, k1m1]
  instanceTypes := #[]
  staticTypes := #[]
  resolved := Array.replicate 62 none
  statics := none }

def pool2 : Array CpInfo := pool [(1, .class_ 2), (0, u "java/lang/constant/Constable"), (0, .class_ 4), (0, u "java/lang/Object")] 6

/-- java/lang/constant/Constable -/
def k2 : Class := { plain "java/lang/constant/Constable" (some 0) with
  accessFlags := 1537
  interfaces := #[]
  cf := some (fileOf pool2 1 #[] #[] 1537 3 #[] #[])
  fields := #[]
  methods := #[]
  instanceTypes := #[]
  staticTypes := #[]
  resolved := Array.replicate 11 none
  statics := none }

def pool3 : Array CpInfo := pool [(1, .class_ 2), (0, u "java/lang/Comparable"), (0, .class_ 4), (0, u "java/lang/Object")] 7

/-- java/lang/Comparable -/
def k3 : Class := { plain "java/lang/Comparable" (some 0) with
  accessFlags := 1537
  interfaces := #[]
  cf := some (fileOf pool3 1 #[] #[] 1537 3 #[] #[])
  fields := #[]
  methods := #[]
  instanceTypes := #[]
  staticTypes := #[]
  resolved := Array.replicate 12 none
  statics := none }

def pool4 : Array CpInfo := pool [(1, .class_ 2), (0, u "java/io/Serializable"), (0, .class_ 4), (0, u "java/lang/Object")] 2

/-- java/io/Serializable -/
def k4 : Class := { plain "java/io/Serializable" (some 0) with
  accessFlags := 1537
  interfaces := #[]
  cf := some (fileOf pool4 1 #[] #[] 1537 3 #[] #[])
  fields := #[]
  methods := #[]
  instanceTypes := #[]
  staticTypes := #[]
  resolved := Array.replicate 7 none
  statics := none }

def pool5 : Array CpInfo := pool [(2, .class_ 4), (1, u "java/lang/Enum"), (0, u "name"), (0, u "Ljava/lang/String;"), (2, u "ordinal"), (0, u "I"), (1, .class_ 14), (1, u "java/lang/Object"), (4, u "hash"), (86, .class_ 108), (1, u "java/lang/Enum$EnumDesc"), (2, .class_ 112), (0, u "java/lang/constant/Constable"), (0, .class_ 114), (0, u "java/lang/Comparable"), (0, .class_ 116), (0, u "java/io/Serializable")] 87

/-- java/lang/Enum -/
def k5 : Class := { plain "java/lang/Enum" (some 0) with
  accessFlags := 1057
  interfaces := #[2, 3, 4]
  cf := some (fileOf pool5 2 #[.nestMembers #[106]] #[] 1057 12 #[111, 113, 115] #[{ accessFlags := 18, nameIndex := 5, descriptorIndex := 6, attributes := #[] }, { accessFlags := 18, nameIndex := 9, descriptorIndex := 10, attributes := #[] }, { accessFlags := 2, nameIndex := 19, descriptorIndex := 10, attributes := #[] }])
  fields := #[{ name := "name", type := (.object "java/lang/String"), accessFlags := 18, slot := 0, constantValue := 0 }, { name := "ordinal", type := .int, accessFlags := 18, slot := 1, constantValue := 0 }, { name := "hash", type := .int, accessFlags := 2, slot := 2, constantValue := 0 }]
  methods := #[]
  instanceTypes := #[(.object "java/lang/String"), .int, .int]
  staticTypes := #[]
  resolved := Array.replicate 204 none
  statics := none }

def pool6 : Array CpInfo := pool [(1, .class_ 2), (0, u "com/example/final_marking/finalmarking/net/Variable$Type"), (2, u "REAL"), (0, u "Lcom/example/final_marking/finalmarking/net/Variable$Type;"), (2, u "INTEGER"), (2, u "BOOLEAN"), (2, u "$VALUES"), (0, u "[Lcom/example/final_marking/finalmarking/net/Variable$Type;"), (6, .class_ 25), (1, u "java/lang/Enum"), (8, u "word"), (0, u "Ljava/lang/String;"), (30, .class_ 67), (0, u "com/example/final_marking/finalmarking/net/Variable")] 2

/-- com/example/final_marking/finalmarking/net/Variable$Type -/
def k6 : Class := { plain "com/example/final_marking/finalmarking/net/Variable$Type" (some 5) with
  accessFlags := 16433
  interfaces := #[]
  cf := some (fileOf pool6 1 #[.nestHost 66] #[] 16433 23 #[] #[{ accessFlags := 16409, nameIndex := 5, descriptorIndex := 6, attributes := #[] }, { accessFlags := 16409, nameIndex := 9, descriptorIndex := 6, attributes := #[] }, { accessFlags := 16409, nameIndex := 12, descriptorIndex := 6, attributes := #[] }, { accessFlags := 18, nameIndex := 34, descriptorIndex := 35, attributes := #[] }, { accessFlags := 4122, nameIndex := 15, descriptorIndex := 16, attributes := #[] }])
  fields := #[{ name := "REAL", type := (.object "com/example/final_marking/finalmarking/net/Variable$Type"), accessFlags := 16409, slot := 0, constantValue := 0 }, { name := "INTEGER", type := (.object "com/example/final_marking/finalmarking/net/Variable$Type"), accessFlags := 16409, slot := 1, constantValue := 0 }, { name := "BOOLEAN", type := (.object "com/example/final_marking/finalmarking/net/Variable$Type"), accessFlags := 16409, slot := 2, constantValue := 0 }, { name := "word", type := (.object "java/lang/String"), accessFlags := 18, slot := 3, constantValue := 0 }, { name := "$VALUES", type := (.array (.object "com/example/final_marking/finalmarking/net/Variable$Type")), accessFlags := 4122, slot := 3, constantValue := 0 }]
  methods := #[]
  instanceTypes := #[(.object "java/lang/String"), .int, .int, (.object "java/lang/String")]
  staticTypes := #[(.object "com/example/final_marking/finalmarking/net/Variable$Type"), (.object "com/example/final_marking/finalmarking/net/Variable$Type"), (.object "com/example/final_marking/finalmarking/net/Variable$Type"), (.array (.object "com/example/final_marking/finalmarking/net/Variable$Type"))]
  resolved := Array.replicate 70 none
  statics := some 0 }

def pool7 : Array CpInfo := pool [(1, .methodref 2 3), (0, .class_ 4), (0, .nameAndType 5 6), (0, u "java/lang/Object"), (0, u "<init>"), (0, u "()V"), (0, .class_ 8), (0, u "java/lang/Record")] 13

def k7c0 : Code := { maxStack := 1, maxLocals := 1, code := jdk_30_method_1_code, exceptionTable := #[], attributes := #[] }
def k7m0 : Method := { name := "<init>", desc := "()V", sig := { parameters := [], returnType := none }, accessFlags := 4, code := some k7c0 }
/-- java/lang/Record -/
def k7 : Class := { plain "java/lang/Record" (some 0) with
  accessFlags := 1057
  interfaces := #[]
  cf := some (fileOf pool7 7 #[] #[{ accessFlags := 4, nameIndex := 5, descriptorIndex := 6, attributes := #[] }] 1057 2 #[] #[])
  fields := #[]
  methods := #[k7m0]
  instanceTypes := #[]
  staticTypes := #[]
  resolved := Array.replicate 22 none
  statics := none }

def pool8 : Array CpInfo := pool [(1, .methodref 2 3), (0, .class_ 4), (0, .nameAndType 5 6), (0, u "java/lang/Record"), (0, u "<init>"), (0, u "()V"), (0, .string 8), (0, u "type"), (0, .methodref 10 11), (0, .class_ 12), (0, .nameAndType 13 14), (0, u "java/util/Objects"), (0, u "requireNonNull"), (0, u "(Ljava/lang/Object;Ljava/lang/String;)Ljava/lang/Object;"), (0, .methodref 16 17), (0, .class_ 18), (0, .nameAndType 19 20), (0, u "java/lang/String"), (0, u "isEmpty"), (0, u "()Z"), (7, .fieldref 29 30), (0, .class_ 31), (0, .nameAndType 32 33), (0, u "com/example/final_marking/finalmarking/net/Variable"), (0, u "name"), (0, u "Ljava/lang/String;"), (0, .fieldref 29 35), (0, .nameAndType 8 36), (0, u "Lcom/example/final_marking/finalmarking/net/Variable$Type;"), (12, u "(Ljava/lang/String;Lcom/example/final_marking/finalmarking/net/Variable$Type;)V"), (3, .class_ 54), (0, u "com/example/final_marking/finalmarking/net/Variable$Type"), (4, u "()Lcom/example/final_marking/finalmarking/net/Variable$Type;")] 23

def k8c0 : Code := { maxStack := 3, maxLocals := 3, code := prog_66_method_1_code, exceptionTable := #[], attributes := #[] }
def k8m0 : Method := { name := "<init>", desc := "(Ljava/lang/String;Lcom/example/final_marking/finalmarking/net/Variable$Type;)V", sig := { parameters := [(.object "java/lang/String"), (.object "com/example/final_marking/finalmarking/net/Variable$Type")], returnType := none }, accessFlags := 1, code := some k8c0 }
def k8c1 : Code := { maxStack := 1, maxLocals := 1, code := prog_66_method_6_code, exceptionTable := #[], attributes := #[] }
def k8m1 : Method := { name := "type", desc := "()Lcom/example/final_marking/finalmarking/net/Variable$Type;", sig := { parameters := [], returnType := some (.object "com/example/final_marking/finalmarking/net/Variable$Type") }, accessFlags := 1, code := some k8c1 }
/-- com/example/final_marking/finalmarking/net/Variable -/
def k8 : Class := { plain "com/example/final_marking/finalmarking/net/Variable" (some 7) with
  accessFlags := 49
  interfaces := #[]
  cf := some (fileOf pool8 29 #[.nestMembers #[53]] #[{ accessFlags := 1, nameIndex := 5, descriptorIndex := 49, attributes := #[] }, { accessFlags := 1, nameIndex := 8, descriptorIndex := 59, attributes := #[] }] 49 2 #[] #[{ accessFlags := 18, nameIndex := 32, descriptorIndex := 33, attributes := #[] }, { accessFlags := 18, nameIndex := 8, descriptorIndex := 36, attributes := #[] }])
  fields := #[{ name := "name", type := (.object "java/lang/String"), accessFlags := 18, slot := 0, constantValue := 0 }, { name := "type", type := (.object "com/example/final_marking/finalmarking/net/Variable$Type"), accessFlags := 18, slot := 1, constantValue := 0 }]
  methods := #[k8m0, k8m1]
  instanceTypes := #[(.object "java/lang/String"), (.object "com/example/final_marking/finalmarking/net/Variable$Type")]
  staticTypes := #[]
  resolved := Array.replicate 83 none
  statics := none }

def pool9 : Array CpInfo := pool [(2, .class_ 4), (1, u "java/lang/CharSequence"), (42, .class_ 48), (0, u "java/lang/CharSequence$1CodePointIterator"), (10, .class_ 60), (0, u "java/lang/CharSequence$1CharIterator"), (5, .class_ 67), (0, u "java/lang/Object")] 63

/-- java/lang/CharSequence -/
def k9 : Class := { plain "java/lang/CharSequence" (some 0) with
  accessFlags := 1537
  interfaces := #[]
  cf := some (fileOf pool9 2 #[.nestMembers #[47, 59]] #[] 1537 66 #[] #[])
  fields := #[]
  methods := #[]
  instanceTypes := #[]
  staticTypes := #[]
  resolved := Array.replicate 131 none
  statics := none }

def pool10 : Array CpInfo := pool [(1, .class_ 2), (0, u "java/lang/constant/ConstantDesc"), (0, .class_ 4), (0, u "java/lang/Object")] 32

/-- java/lang/constant/ConstantDesc -/
def k10 : Class := { plain "java/lang/constant/ConstantDesc" (some 0) with
  accessFlags := 1537
  interfaces := #[]
  cf := some (fileOf pool10 1 #[] #[] 1537 3 #[] #[])
  fields := #[]
  methods := #[]
  instanceTypes := #[]
  staticTypes := #[]
  resolved := Array.replicate 37 none
  statics := none }

def pool11 : Array CpInfo := pool [(1, .methodref 2 3), (0, .class_ 4), (0, .nameAndType 5 6), (0, u "java/lang/Object"), (0, u "<init>"), (0, u "()V"), (2, .fieldref 10 11), (0, .class_ 12), (0, .nameAndType 13 14), (0, u "java/lang/String"), (0, u "value"), (0, u "[B"), (0, .fieldref 10 16), (0, .nameAndType 17 18), (0, u "coder"), (0, u "B"), (2, u "hash"), (0, u "I"), (2, u "hashIsZero"), (0, u "Z"), (0, .methodref 10 28), (0, .nameAndType 5 29), (0, u "([CIILjava/lang/Void;)V"), (8, .fieldref 10 39), (0, .nameAndType 40 26), (0, u "COMPACT_STRINGS"), (1, .class_ 44), (1, u "java/lang/StringUTF16"), (0, u "compress"), (1, .methodref 42 48), (0, .nameAndType 49 50), (0, u "coderFromArrayLen"), (0, u "([BI)B"), (91, u "()Z"), (34, .methodref 42 178), (0, .nameAndType 45 179), (0, u "([CII)[B"), (395, .class_ 576), (0, u "java/lang/CharSequence"), (22, u "CASE_INSENSITIVE_ORDER"), (0, u "Ljava/util/Comparator;"), (91, u "isEmpty"), (317, u "([C)V"), (90, u "serialPersistentFields"), (0, u "[Ljava/io/ObjectStreamField;"), (0, .class_ 1104), (0, u "java/lang/String$CaseInsensitiveComparator"), (1, .class_ 1107), (0, u "java/io/Serializable"), (0, .class_ 1109), (0, u "java/lang/Comparable"), (0, .class_ 1111), (0, u "java/lang/constant/Constable"), (0, .class_ 1113), (0, u "java/lang/constant/ConstantDesc"), (2, u "serialVersionUID"), (0, u "J"), (3, u "REPL"), (0, u "C"), (2, u "LATIN1"), (1, u "UTF16")] 323

def k11m0 : Method := { name := "<init>", desc := "()V", sig := { parameters := [], returnType := none }, accessFlags := 1, code := none }
def k11c1 : Code := { maxStack := 5, maxLocals := 2, code := jdk_42_method_3_code, exceptionTable := #[], attributes := #[] }
def k11m1 : Method := { name := "<init>", desc := "([C)V", sig := { parameters := [(.array .char)], returnType := none }, accessFlags := 1, code := some k11c1 }
def k11c2 : Code := { maxStack := 1, maxLocals := 1, code := jdk_42_method_55_code, exceptionTable := #[], attributes := #[] }
def k11m2 : Method := { name := "isEmpty", desc := "()Z", sig := { parameters := [], returnType := some .boolean }, accessFlags := 1, code := some k11c2 }
def k11c3 : Code := { maxStack := 4, maxLocals := 6, code := jdk_42_method_149_code, exceptionTable := #[], attributes := #[] }
def k11m3 : Method := { name := "<init>", desc := "([CIILjava/lang/Void;)V", sig := { parameters := [(.array .char), .int, .int, (.object "java/lang/Void")], returnType := none }, accessFlags := 2, code := some k11c3 }
/-- java/lang/String -/
def k11 : Class := { plain "java/lang/String" (some 0) with
  accessFlags := 49
  interfaces := #[4, 3, 9, 2, 10]
  cf := some (fileOf pool11 10 #[.nestMembers #[1103]] #[{ accessFlags := 1, nameIndex := 5, descriptorIndex := 6, attributes := #[] }, { accessFlags := 1, nameIndex := 5, descriptorIndex := 1010, attributes := #[] }, { accessFlags := 1, nameIndex := 692, descriptorIndex := 142, attributes := #[] }, { accessFlags := 2, nameIndex := 5, descriptorIndex := 29, attributes := #[] }] 49 2 #[1106, 1108, 575, 1110, 1112] #[{ accessFlags := 18, nameIndex := 13, descriptorIndex := 14, attributes := #[] }, { accessFlags := 18, nameIndex := 17, descriptorIndex := 18, attributes := #[] }, { accessFlags := 2, nameIndex := 21, descriptorIndex := 22, attributes := #[] }, { accessFlags := 2, nameIndex := 25, descriptorIndex := 26, attributes := #[] }, { accessFlags := 26, nameIndex := 1116, descriptorIndex := 1117, attributes := #[] }, { accessFlags := 24, nameIndex := 40, descriptorIndex := 26, attributes := #[] }, { accessFlags := 26, nameIndex := 1101, descriptorIndex := 1102, attributes := #[] }, { accessFlags := 26, nameIndex := 1121, descriptorIndex := 1122, attributes := #[] }, { accessFlags := 25, nameIndex := 599, descriptorIndex := 600, attributes := #[] }, { accessFlags := 24, nameIndex := 1125, descriptorIndex := 18, attributes := #[] }, { accessFlags := 24, nameIndex := 1127, descriptorIndex := 18, attributes := #[] }])
  fields := #[{ name := "value", type := (.array .byte), accessFlags := 18, slot := 0, constantValue := 0 }, { name := "coder", type := .byte, accessFlags := 18, slot := 1, constantValue := 0 }, { name := "hash", type := .int, accessFlags := 2, slot := 2, constantValue := 0 }, { name := "hashIsZero", type := .boolean, accessFlags := 2, slot := 3, constantValue := 0 }, { name := "serialVersionUID", type := .long, accessFlags := 26, slot := 0, constantValue := 0 }, { name := "COMPACT_STRINGS", type := .boolean, accessFlags := 24, slot := 1, constantValue := 0 }, { name := "serialPersistentFields", type := (.array (.object "java/io/ObjectStreamField")), accessFlags := 26, slot := 2, constantValue := 0 }, { name := "REPL", type := .char, accessFlags := 26, slot := 3, constantValue := 0 }, { name := "CASE_INSENSITIVE_ORDER", type := (.object "java/util/Comparator"), accessFlags := 25, slot := 4, constantValue := 0 }, { name := "LATIN1", type := .byte, accessFlags := 24, slot := 5, constantValue := 0 }, { name := "UTF16", type := .byte, accessFlags := 24, slot := 6, constantValue := 0 }]
  methods := #[k11m0, k11m1, k11m2, k11m3]
  instanceTypes := #[(.array .byte), .byte, .int, .boolean]
  staticTypes := #[.long, .boolean, (.array (.object "java/io/ObjectStreamField")), .char, (.object "java/util/Comparator"), .byte, .byte]
  resolved := Array.replicate 1451 none
  statics := some 1 }

def pool12 : Array CpInfo := pool [(6, .class_ 8), (1, u "java/lang/Object"), (0, u "<init>"), (0, u "()V"), (1, .class_ 14), (1, u "java/lang/StringUTF16"), (31, u "$assertionsDisabled"), (0, u "Z"), (13, u "HI_BYTE_SHIFT"), (0, u "I"), (2, u "LO_BYTE_SHIFT"), (49, .methodref 12 116), (0, .nameAndType 117 118), (0, u "compress"), (0, u "([CI[BII)I"), (3, u "([CII)[B"), (138, u "coderFromArrayLen"), (0, u "([BI)B"), (106, .class_ 371), (1, u "java/lang/StringUTF16$LinesSpliterator"), (58, u "MAX_LENGTH"), (196, .class_ 628), (0, u "java/lang/StringUTF16$CodePointsSpliterator"), (0, .class_ 630), (0, u "java/lang/StringUTF16$CharsSpliterator")] 4

def k12m0 : Method := { name := "<init>", desc := "()V", sig := { parameters := [], returnType := none }, accessFlags := 0, code := none }
def k12c1 : Code := { maxStack := 2, maxLocals := 2, code := jdk_52_method_15_code, exceptionTable := #[], attributes := #[] }
def k12m1 : Method := { name := "coderFromArrayLen", desc := "([BI)B", sig := { parameters := [(.array .byte), .int], returnType := some .byte }, accessFlags := 8, code := some k12c1 }
def k12c2 : Code := { maxStack := 5, maxLocals := 6, code := jdk_52_method_16_code, exceptionTable := #[], attributes := #[] }
def k12m2 : Method := { name := "compress", desc := "([CII)[B", sig := { parameters := [(.array .char), .int, .int], returnType := some (.array .byte) }, accessFlags := 9, code := some k12c2 }
def k12c3 : Code := { maxStack := 3, maxLocals := 7, code := jdk_52_method_21_code, exceptionTable := #[], attributes := #[] }
def k12m3 : Method := { name := "compress", desc := "([CI[BII)I", sig := { parameters := [(.array .char), .int, (.array .byte), .int, .int], returnType := some .int }, accessFlags := 9, code := some k12c3 }
/-- java/lang/StringUTF16 -/
def k12 : Class := { plain "java/lang/StringUTF16" (some 0) with
  accessFlags := 48
  interfaces := #[]
  cf := some (fileOf pool12 12 #[.nestMembers #[627, 629, 369]] #[{ accessFlags := 0, nameIndex := 9, descriptorIndex := 10, attributes := #[] }, { accessFlags := 8, nameIndex := 261, descriptorIndex := 262, attributes := #[] }, { accessFlags := 9, nameIndex := 117, descriptorIndex := 122, attributes := #[] }, { accessFlags := 9, nameIndex := 117, descriptorIndex := 118, attributes := #[] }] 48 6 #[] #[{ accessFlags := 26, nameIndex := 61, descriptorIndex := 62, attributes := #[] }, { accessFlags := 26, nameIndex := 65, descriptorIndex := 62, attributes := #[] }, { accessFlags := 24, nameIndex := 430, descriptorIndex := 62, attributes := #[] }, { accessFlags := 4120, nameIndex := 46, descriptorIndex := 47, attributes := #[] }])
  fields := #[{ name := "HI_BYTE_SHIFT", type := .int, accessFlags := 26, slot := 0, constantValue := 0 }, { name := "LO_BYTE_SHIFT", type := .int, accessFlags := 26, slot := 1, constantValue := 0 }, { name := "MAX_LENGTH", type := .int, accessFlags := 24, slot := 2, constantValue := 0 }, { name := "$assertionsDisabled", type := .boolean, accessFlags := 4120, slot := 3, constantValue := 0 }]
  methods := #[k12m0, k12m1, k12m2, k12m3]
  instanceTypes := #[]
  staticTypes := #[.int, .int, .int, .boolean]
  resolved := Array.replicate 635 none
  statics := none }

def pool13 : Array CpInfo := pool [(2, .class_ 4), (1, u "java/lang/Object"), (0, u "<init>"), (0, u "()V"), (35, .class_ 44), (1, u "java/util/Objects"), (0, u "requireNonNull"), (48, u "(Ljava/lang/Object;Ljava/lang/String;)Ljava/lang/Object;")] 89

def k13m0 : Method := { name := "<init>", desc := "()V", sig := { parameters := [], returnType := none }, accessFlags := 2, code := none }
def k13c1 : Code := { maxStack := 3, maxLocals := 2, code := jdk_31_method_11_code, exceptionTable := #[], attributes := #[] }
def k13m1 : Method := { name := "requireNonNull", desc := "(Ljava/lang/Object;Ljava/lang/String;)Ljava/lang/Object;", sig := { parameters := [(.object "java/lang/Object"), (.object "java/lang/String")], returnType := some (.object "java/lang/Object") }, accessFlags := 9, code := some k13c1 }
/-- java/util/Objects -/
def k13 : Class := { plain "java/util/Objects" (some 0) with
  accessFlags := 49
  interfaces := #[]
  cf := some (fileOf pool13 42 #[] #[{ accessFlags := 2, nameIndex := 5, descriptorIndex := 6, attributes := #[] }, { accessFlags := 9, nameIndex := 45, descriptorIndex := 94, attributes := #[] }] 49 2 #[] #[])
  fields := #[]
  methods := #[k13m0, k13m1]
  instanceTypes := #[]
  staticTypes := #[]
  resolved := Array.replicate 184 none
  statics := none }

def pool14 : Array CpInfo := pool [(1, .class_ 2), (0, u "com/example/final_marking/finalmarking/net/Guard$Operand"), (0, .class_ 4), (0, u "java/lang/Object"), (5, .class_ 11), (0, u "com/example/final_marking/finalmarking/net/Guard")] 12

/-- com/example/final_marking/finalmarking/net/Guard$Operand -/
def k14 : Class := { plain "com/example/final_marking/finalmarking/net/Guard$Operand" (some 0) with
  accessFlags := 1537
  interfaces := #[]
  cf := some (fileOf pool14 1 #[.nestHost 10] #[] 1537 3 #[] #[])
  fields := #[]
  methods := #[]
  instanceTypes := #[]
  staticTypes := #[]
  resolved := Array.replicate 24 none
  statics := none }

def pool15 : Array CpInfo := pool [(1, .methodref 2 3), (0, .class_ 4), (0, .nameAndType 5 6), (0, u "java/lang/Record"), (0, u "<init>"), (0, u "()V"), (0, .fieldref 8 9), (0, .class_ 10), (0, .nameAndType 11 12), (0, u "com/example/final_marking/finalmarking/net/Guard$Value"), (0, u "variable"), (0, u "Lcom/example/final_marking/finalmarking/net/Variable;"), (0, .fieldref 8 14), (0, .nameAndType 15 16), (0, u "written"), (0, u "Z"), (0, .methodref 18 19), (0, .class_ 20), (0, .nameAndType 21 22), (0, u "com/example/final_marking/finalmarking/net/Variable"), (0, u "type"), (0, u "()Lcom/example/final_marking/finalmarking/net/Variable$Type;"), (0, .fieldref 24 25), (0, .class_ 26), (0, .nameAndType 27 28), (0, u "com/example/final_marking/finalmarking/net/Variable$Type"), (0, u "BOOLEAN"), (0, u "Lcom/example/final_marking/finalmarking/net/Variable$Type;"), (12, .class_ 42), (0, u "com/example/final_marking/finalmarking/net/Guard$Operand"), (0, u "(Lcom/example/final_marking/finalmarking/net/Variable;Z)V"), (3, u "isBoolean"), (0, u "()Z"), (4, u "()Lcom/example/final_marking/finalmarking/net/Variable;"), (3, .class_ 58), (0, u "com/example/final_marking/finalmarking/net/Guard")] 22

def k15c0 : Code := { maxStack := 2, maxLocals := 3, code := prog_40_method_1_code, exceptionTable := #[], attributes := #[] }
def k15m0 : Method := { name := "<init>", desc := "(Lcom/example/final_marking/finalmarking/net/Variable;Z)V", sig := { parameters := [(.object "com/example/final_marking/finalmarking/net/Variable"), .boolean], returnType := none }, accessFlags := 1, code := some k15c0 }
def k15c1 : Code := { maxStack := 2, maxLocals := 1, code := prog_40_method_2_code, exceptionTable := #[], attributes := #[] }
def k15m1 : Method := { name := "isBoolean", desc := "()Z", sig := { parameters := [], returnType := some .boolean }, accessFlags := 1, code := some k15c1 }
def k15c2 : Code := { maxStack := 1, maxLocals := 1, code := prog_40_method_6_code, exceptionTable := #[], attributes := #[] }
def k15m2 : Method := { name := "variable", desc := "()Lcom/example/final_marking/finalmarking/net/Variable;", sig := { parameters := [], returnType := some (.object "com/example/final_marking/finalmarking/net/Variable") }, accessFlags := 1, code := some k15c2 }
def k15c3 : Code := { maxStack := 1, maxLocals := 1, code := prog_40_method_7_code, exceptionTable := #[], attributes := #[] }
def k15m3 : Method := { name := "written", desc := "()Z", sig := { parameters := [], returnType := some .boolean }, accessFlags := 1, code := some k15c3 }
/-- com/example/final_marking/finalmarking/net/Guard$Value -/
def k15 : Class := { plain "com/example/final_marking/finalmarking/net/Guard$Value" (some 7) with
  accessFlags := 49
  interfaces := #[14]
  cf := some (fileOf pool15 8 #[.nestHost 57] #[{ accessFlags := 1, nameIndex := 5, descriptorIndex := 43, attributes := #[] }, { accessFlags := 1, nameIndex := 47, descriptorIndex := 48, attributes := #[] }, { accessFlags := 1, nameIndex := 11, descriptorIndex := 53, attributes := #[] }, { accessFlags := 1, nameIndex := 15, descriptorIndex := 48, attributes := #[] }] 49 2 #[41] #[{ accessFlags := 18, nameIndex := 11, descriptorIndex := 12, attributes := #[] }, { accessFlags := 18, nameIndex := 15, descriptorIndex := 16, attributes := #[] }])
  fields := #[{ name := "variable", type := (.object "com/example/final_marking/finalmarking/net/Variable"), accessFlags := 18, slot := 0, constantValue := 0 }, { name := "written", type := .boolean, accessFlags := 18, slot := 1, constantValue := 0 }]
  methods := #[k15m0, k15m1, k15m2, k15m3]
  instanceTypes := #[(.object "com/example/final_marking/finalmarking/net/Variable"), .boolean]
  staticTypes := #[]
  resolved := Array.replicate 81 none
  statics := none }

def pool16 : Array CpInfo := pool [(4, .class_ 6), (1, u "java/lang/Object"), (0, u "<init>"), (0, u "()V"), (5, .class_ 16), (1, u "java/lang/StringLatin1"), (104, u "$assertionsDisabled"), (0, u "Z"), (98, .class_ 223), (1, u "java/lang/StringLatin1$LinesSpliterator"), (166, .class_ 391), (0, u "java/lang/StringLatin1$CharsSpliterator")] 3

def k16m0 : Method := { name := "<init>", desc := "()V", sig := { parameters := [], returnType := none }, accessFlags := 0, code := none }
/-- java/lang/StringLatin1 -/
def k16 : Class := { plain "java/lang/StringLatin1" (some 0) with
  accessFlags := 48
  interfaces := #[]
  cf := some (fileOf pool16 14 #[.nestMembers #[390, 221]] #[{ accessFlags := 0, nameIndex := 7, descriptorIndex := 8, attributes := #[] }] 48 4 #[] #[{ accessFlags := 4120, nameIndex := 121, descriptorIndex := 122, attributes := #[] }])
  fields := #[{ name := "$assertionsDisabled", type := .boolean, accessFlags := 4120, slot := 0, constantValue := 0 }]
  methods := #[k16m0]
  instanceTypes := #[]
  staticTypes := #[.boolean]
  resolved := Array.replicate 395 none
  statics := none }

def pool17 : Array CpInfo := pool [(2, .class_ 4), (1, u "java/lang/Object"), (0, u "<init>"), (0, u "()V"), (17, .class_ 26), (1, u "jdk/internal/util/Preconditions"), (28, .class_ 56), (0, u "jdk/internal/util/Preconditions$4"), (57, .class_ 115), (0, u "jdk/internal/util/Preconditions$1"), (7, u "SIOOBE_FORMATTER"), (0, u "Ljava/util/function/BiFunction;"), (0, .class_ 126), (0, u "jdk/internal/util/Preconditions$2"), (3, u "AIOOBE_FORMATTER"), (0, .class_ 132), (0, u "jdk/internal/util/Preconditions$3"), (3, u "IOOBE_FORMATTER")] 57

def k17m0 : Method := { name := "<init>", desc := "()V", sig := { parameters := [], returnType := none }, accessFlags := 1, code := none }
/-- jdk/internal/util/Preconditions -/
def k17 : Class := { plain "jdk/internal/util/Preconditions" (some 0) with
  accessFlags := 33
  interfaces := #[]
  cf := some (fileOf pool17 24 #[.nestMembers #[55, 131, 125, 114]] #[{ accessFlags := 1, nameIndex := 5, descriptorIndex := 6, attributes := #[] }] 33 2 #[] #[{ accessFlags := 25, nameIndex := 123, descriptorIndex := 124, attributes := #[] }, { accessFlags := 25, nameIndex := 130, descriptorIndex := 124, attributes := #[] }, { accessFlags := 25, nameIndex := 136, descriptorIndex := 124, attributes := #[] }])
  fields := #[{ name := "SIOOBE_FORMATTER", type := (.object "java/util/function/BiFunction"), accessFlags := 25, slot := 0, constantValue := 0 }, { name := "AIOOBE_FORMATTER", type := (.object "java/util/function/BiFunction"), accessFlags := 25, slot := 1, constantValue := 0 }, { name := "IOOBE_FORMATTER", type := (.object "java/util/function/BiFunction"), accessFlags := 25, slot := 2, constantValue := 0 }]
  methods := #[k17m0]
  instanceTypes := #[]
  staticTypes := #[(.object "java/util/function/BiFunction"), (.object "java/util/function/BiFunction"), (.object "java/util/function/BiFunction")]
  resolved := Array.replicate 194 none
  statics := some 2 }

def pool18 : Array CpInfo := pool [(9, u "<init>"), (6, .class_ 18), (1, u "java/lang/Object"), (0, u "()V"), (1, .class_ 23), (1, u "jdk/internal/util/ArraysSupport"), (0, u "LOG2_ARRAY_LONG_INDEX_SCALE"), (0, u "I"), (2, u "U"), (0, u "Ljdk/internal/misc/Unsafe;"), (8, u "BIG_ENDIAN"), (0, u "Z"), (8, u "LOG2_BYTE_BIT_SIZE"), (4, u "LOG2_ARRAY_INT_INDEX_SCALE"), (54, u "JLA"), (0, u "Ljdk/internal/access/JavaLangAccess;"), (11, u "LOG2_ARRAY_BOOLEAN_INDEX_SCALE"), (9, u "LOG2_ARRAY_BYTE_INDEX_SCALE"), (5, u "LOG2_ARRAY_CHAR_INDEX_SCALE"), (5, u "LOG2_ARRAY_SHORT_INDEX_SCALE"), (18, u "LOG2_ARRAY_FLOAT_INDEX_SCALE"), (24, u "LOG2_ARRAY_DOUBLE_INDEX_SCALE"), (89, u "T_BOOLEAN"), (2, u "T_CHAR"), (1, u "T_FLOAT"), (1, u "T_DOUBLE"), (1, u "T_BYTE"), (1, u "T_SHORT"), (1, u "T_INT"), (1, u "T_LONG"), (1, u "SOFT_MAX_ARRAY_LENGTH")] 83

def k18m0 : Method := { name := "<init>", desc := "()V", sig := { parameters := [], returnType := none }, accessFlags := 2, code := none }
/-- jdk/internal/util/ArraysSupport -/
def k18 : Class := { plain "jdk/internal/util/ArraysSupport" (some 0) with
  accessFlags := 33
  interfaces := #[]
  cf := some (fileOf pool18 21 #[] #[{ accessFlags := 2, nameIndex := 9, descriptorIndex := 19, attributes := #[] }] 33 16 #[] #[{ accessFlags := 24, nameIndex := 28, descriptorIndex := 29, attributes := #[] }, { accessFlags := 26, nameIndex := 38, descriptorIndex := 39, attributes := #[] }, { accessFlags := 25, nameIndex := 121, descriptorIndex := 25, attributes := #[] }, { accessFlags := 25, nameIndex := 131, descriptorIndex := 25, attributes := #[] }, { accessFlags := 25, nameIndex := 137, descriptorIndex := 25, attributes := #[] }, { accessFlags := 25, nameIndex := 143, descriptorIndex := 25, attributes := #[] }, { accessFlags := 25, nameIndex := 53, descriptorIndex := 25, attributes := #[] }, { accessFlags := 25, nameIndex := 24, descriptorIndex := 25, attributes := #[] }, { accessFlags := 25, nameIndex := 162, descriptorIndex := 25, attributes := #[] }, { accessFlags := 25, nameIndex := 187, descriptorIndex := 25, attributes := #[] }, { accessFlags := 26, nameIndex := 48, descriptorIndex := 25, attributes := #[] }, { accessFlags := 25, nameIndex := 277, descriptorIndex := 25, attributes := #[] }, { accessFlags := 25, nameIndex := 280, descriptorIndex := 25, attributes := #[] }, { accessFlags := 25, nameIndex := 282, descriptorIndex := 25, attributes := #[] }, { accessFlags := 25, nameIndex := 284, descriptorIndex := 25, attributes := #[] }, { accessFlags := 25, nameIndex := 286, descriptorIndex := 25, attributes := #[] }, { accessFlags := 25, nameIndex := 288, descriptorIndex := 25, attributes := #[] }, { accessFlags := 25, nameIndex := 290, descriptorIndex := 25, attributes := #[] }, { accessFlags := 25, nameIndex := 292, descriptorIndex := 25, attributes := #[] }, { accessFlags := 26, nameIndex := 108, descriptorIndex := 109, attributes := #[] }, { accessFlags := 25, nameIndex := 294, descriptorIndex := 25, attributes := #[] }])
  fields := #[{ name := "U", type := (.object "jdk/internal/misc/Unsafe"), accessFlags := 24, slot := 0, constantValue := 0 }, { name := "BIG_ENDIAN", type := .boolean, accessFlags := 26, slot := 1, constantValue := 0 }, { name := "LOG2_ARRAY_BOOLEAN_INDEX_SCALE", type := .int, accessFlags := 25, slot := 2, constantValue := 0 }, { name := "LOG2_ARRAY_BYTE_INDEX_SCALE", type := .int, accessFlags := 25, slot := 3, constantValue := 0 }, { name := "LOG2_ARRAY_CHAR_INDEX_SCALE", type := .int, accessFlags := 25, slot := 4, constantValue := 0 }, { name := "LOG2_ARRAY_SHORT_INDEX_SCALE", type := .int, accessFlags := 25, slot := 5, constantValue := 0 }, { name := "LOG2_ARRAY_INT_INDEX_SCALE", type := .int, accessFlags := 25, slot := 6, constantValue := 0 }, { name := "LOG2_ARRAY_LONG_INDEX_SCALE", type := .int, accessFlags := 25, slot := 7, constantValue := 0 }, { name := "LOG2_ARRAY_FLOAT_INDEX_SCALE", type := .int, accessFlags := 25, slot := 8, constantValue := 0 }, { name := "LOG2_ARRAY_DOUBLE_INDEX_SCALE", type := .int, accessFlags := 25, slot := 9, constantValue := 0 }, { name := "LOG2_BYTE_BIT_SIZE", type := .int, accessFlags := 26, slot := 10, constantValue := 0 }, { name := "T_BOOLEAN", type := .int, accessFlags := 25, slot := 11, constantValue := 0 }, { name := "T_CHAR", type := .int, accessFlags := 25, slot := 12, constantValue := 0 }, { name := "T_FLOAT", type := .int, accessFlags := 25, slot := 13, constantValue := 0 }, { name := "T_DOUBLE", type := .int, accessFlags := 25, slot := 14, constantValue := 0 }, { name := "T_BYTE", type := .int, accessFlags := 25, slot := 15, constantValue := 0 }, { name := "T_SHORT", type := .int, accessFlags := 25, slot := 16, constantValue := 0 }, { name := "T_INT", type := .int, accessFlags := 25, slot := 17, constantValue := 0 }, { name := "T_LONG", type := .int, accessFlags := 25, slot := 18, constantValue := 0 }, { name := "JLA", type := (.object "jdk/internal/access/JavaLangAccess"), accessFlags := 26, slot := 19, constantValue := 0 }, { name := "SOFT_MAX_ARRAY_LENGTH", type := .int, accessFlags := 25, slot := 20, constantValue := 0 }]
  methods := #[k18m0]
  instanceTypes := #[]
  staticTypes := #[(.object "jdk/internal/misc/Unsafe"), .boolean, .int, .int, .int, .int, .int, .int, .int, .int, .int, .int, .int, .int, .int, .int, .int, .int, .int, (.object "jdk/internal/access/JavaLangAccess"), .int]
  resolved := Array.replicate 378 none
  statics := none }

def pool19 : Array CpInfo := pool [(1, u "java/lang/Cloneable"), (0, .class_ 1), (0, u "java/lang/Object"), (0, .class_ 3)] 3

/-- java/lang/Cloneable -/
def k19 : Class := { plain "java/lang/Cloneable" (some 0) with
  accessFlags := 1537
  interfaces := #[]
  cf := some (fileOf pool19 2 #[] #[] 1537 4 #[] #[])
  fields := #[]
  methods := #[]
  instanceTypes := #[]
  staticTypes := #[]
  resolved := Array.replicate 8 none
  statics := none }

/-- the primitive byte -/
def k20 : Class := { plain "byte" none with kind := .primitive 'B', accessFlags := 0x411 }
/-- [B -/
def k21 : Class := { plain "[B" (some 0) with kind := .array 20 .byte, interfaces := #[19, 4], accessFlags := 1041 }

/-- the primitive char -/
def k22 : Class := { plain "char" none with kind := .primitive 'C', accessFlags := 0x411 }
/-- [C -/
def k23 : Class := { plain "[C" (some 0) with kind := .array 22 .char, interfaces := #[19, 4], accessFlags := 1041 }

/-- the primitive int -/
def k24 : Class := { plain "int" none with kind := .primitive 'I', accessFlags := 0x411 }
/-- [I -/
def k25 : Class := { plain "[I" (some 0) with kind := .array 24 .int, interfaces := #[19, 4], accessFlags := 1041 }

def heap : Heap := #[{ cls := 6, slots := #[.ref 3, .ref 4, .ref 5, .null], vm := .statics 6 },
  { cls := 11, slots := #[.long 0, .int 1, .null, .int 0, .null, .int 0, .int 0], vm := .statics 11 },
  { cls := 17, slots := #[.null, .null, .null], vm := .statics 17 },
  { cls := 6, slots := #[.null, .int 0, .int 0, .null], vm := .none },
  { cls := 6, slots := #[.null, .int 1, .int 0, .null], vm := .none },
  { cls := 6, slots := #[.null, .int 2, .int 0, .null], vm := .none }]
def classes : Array Class := #[k0, k1, k2, k3, k4, k5, k6, k7, k8, k9, k10, k11, k12, k13, k14, k15, k16, k17, k18, k19, k20, k21, k22, k23, k24, k25]
def interned : List (Array UInt16 × Addr) := []
def slotsUsed : Nat := 26
def theMethod : MethodId := ⟨1, 1⟩
def args0 : Array Value := #[.int 5, .int 7, .int 6]
def aboutOver (below : List Frame) : State where
  vm := { classes := classes, interned := interned.toArray }
  heap := heap
  slotsUsed := slotsUsed
  threads := #[{ frames := .invoking theMethod args0 :: below }]
def below0 : List Frame := [.native { method := ⟨0, 0⟩, args := #[] }]
def about1 : State := aboutOver below0
def p0 : Program := .bare "" "" ""
def e0 : Env := launch0.env 0 0 0
theorem w_frames : about1.frames = Frame.invoking theMethod args0 :: below0 := rfl
set_option maxRecDepth 65536 in
theorem w_args : argsFit about1.vm theMethod args0 = true := by decide +kernel
set_option maxRecDepth 65536 in
theorem w_heap : heapFits about1 = true := by decide +kernel
set_option maxRecDepth 65536 in
theorem w_runnable : about1.curStatus? = some .runnable := by decide +kernel
set_option maxRecDepth 65536 in
theorem w_alone : about1.alone = true := by decide +kernel
set_option maxRecDepth 65536 in
theorem w_named : about1.methodNamed? x = some theMethod := by decide +kernel
set_option maxRecDepth 65536 in
theorem w_hears : about1.hears theMethod below0 = true := by decide +kernel
set_option maxRecDepth 65536 in
theorem w_ripe : about1.ripe theMethod args0 below0 = true := by decide +kernel
theorem w_running : about1.status = .running := rfl
set_option maxRecDepth 65536 in
theorem w_room : about1.hasRoom e0.platform room_1 = true :=
  launch0.hasRoom_least _ room_1 (by decide +kernel) (by decide +kernel) (by decide +kernel) (by decide +kernel) (by decide +kernel) (by decide +kernel)
theorem allAtoms_all (ts : List Jvm.Cond) (a : Array Jvm.Value) (st : Jvm.State) : (allAtoms ts).before a st = ts.all (fun c => c.before a st) := by
  induction ts with
  | nil => rfl
  | cons c t ih =>
    show (Jvm.Cond.and c (allAtoms t)).before a st = _
    rw [Jvm.Cond.before_and, ih, List.all_cons]
def words1 : List Jvm.Cond := Jvm.Cond.code x code maxLocals ret :: tables_1
/-- a 'code' word, met by the world's own term for the bytes: nothing is compared byte by byte -/
theorem code_word {y : MethodName} {bytes : ByteArray} {mx : Nat} {rt : Option FieldType} {a : Array Value} {s : State} {m : MethodId} {meth : Method} {c : Code} (h1 : s.methodNamed? y = some m) (h2 : s.vm.method? m = some meth) (h3 : meth.code = some c) (h4 : c.code = bytes)
    (h5 : (c.maxLocals == mx && c.exceptionTable.isEmpty && decide (c.maxStack ≤ mostOperands) && decide (meth.sig.returnType = rt) && !meth.locks && decide (parseMethodDescriptor y.desc = some meth.sig)) = true) : (Jvm.Cond.code y bytes mx rt).before a s = true := by
  simp only [Bool.and_eq_true, beq_iff_eq, Bool.not_eq_true', decide_eq_true_eq] at h5
  obtain ⟨⟨⟨⟨⟨g1, g2⟩, g3⟩, g4⟩, g5⟩, g6⟩ := h5
  simp [Cond.before, Cond.holds, Cond.value, h1, h2, h3, h4, g1, g2, g3, g4, g5, g6]
def isCode : Jvm.Cond → Bool
  | .code _ _ _ _ => true
  | _ => false
theorem all_split {L : List Jvm.Cond} {P : Jvm.Cond → Bool} (h1 : L.all (fun c => isCode c || P c) = true) (h2 : ∀ c ∈ L.filter isCode, P c = true) : L.all P = true := by
  refine List.all_eq_true.mpr fun c hc => ?_
  have h := List.all_eq_true.mp h1 c hc
  rcases Bool.eq_false_or_eq_true (isCode c) with hi | hi
  · exact h2 c (List.mem_filter.mpr ⟨hc, hi⟩)
  · simpa [hi] using h
set_option maxRecDepth 65536 in
theorem w_c0 : (Jvm.Cond.code x code maxLocals ret).before args0 about1 = true := code_word (m := ⟨1, 1⟩) (meth := k1m1) (c := k1c1) (by decide +kernel) rfl rfl rfl (by decide +kernel)
set_option maxRecDepth 65536 in
theorem w_c1 : (Jvm.Cond.code ({ cls := "java/lang/String", name := "<init>", desc := "([C)V" } : Jvm.MethodName) jdk_42_method_3_code (2 : Nat) (Option.none : Option Jvm.ClassFile.FieldType)).before args0 about1 = true := code_word (m := ⟨11, 1⟩) (meth := k11m1) (c := k11c1) (by decide +kernel) rfl rfl rfl (by decide +kernel)
set_option maxRecDepth 65536 in
theorem w_c2 : (Jvm.Cond.code ({ cls := "java/lang/String", name := "<init>", desc := "([CIILjava/lang/Void;)V" } : Jvm.MethodName) jdk_42_method_149_code (6 : Nat) (Option.none : Option Jvm.ClassFile.FieldType)).before args0 about1 = true := code_word (m := ⟨11, 3⟩) (meth := k11m3) (c := k11c3) (by decide +kernel) rfl rfl rfl (by decide +kernel)
set_option maxRecDepth 65536 in
theorem w_c3 : (Jvm.Cond.code ({ cls := "java/lang/Object", name := "<init>", desc := "()V" } : Jvm.MethodName) object_method_1_code (1 : Nat) (Option.none : Option Jvm.ClassFile.FieldType)).before args0 about1 = true := code_word (m := ⟨0, 0⟩) (meth := k0m0) (c := k0c0) (by decide +kernel) rfl rfl rfl (by decide +kernel)
set_option maxRecDepth 65536 in
theorem w_c4 : (Jvm.Cond.code ({ cls := "java/lang/StringUTF16", name := "compress", desc := "([CII)[B" } : Jvm.MethodName) jdk_52_method_16_code (6 : Nat) (Option.some (Jvm.ClassFile.FieldType.array Jvm.ClassFile.FieldType.byte))).before args0 about1 = true := code_word (m := ⟨12, 2⟩) (meth := k12m2) (c := k12c2) (by decide +kernel) rfl rfl rfl (by decide +kernel)
set_option maxRecDepth 65536 in
theorem w_c5 : (Jvm.Cond.code ({ cls := "java/lang/StringUTF16", name := "compress", desc := "([CI[BII)I" } : Jvm.MethodName) jdk_52_method_21_code (7 : Nat) (Option.some Jvm.ClassFile.FieldType.int)).before args0 about1 = true := code_word (m := ⟨12, 3⟩) (meth := k12m3) (c := k12c3) (by decide +kernel) rfl rfl rfl (by decide +kernel)
set_option maxRecDepth 65536 in
theorem w_c6 : (Jvm.Cond.code ({ cls := "java/lang/StringUTF16", name := "coderFromArrayLen", desc := "([BI)B" } : Jvm.MethodName) jdk_52_method_15_code (2 : Nat) (Option.some Jvm.ClassFile.FieldType.byte)).before args0 about1 = true := code_word (m := ⟨12, 1⟩) (meth := k12m1) (c := k12c1) (by decide +kernel) rfl rfl rfl (by decide +kernel)
set_option maxRecDepth 65536 in
theorem w_c7 : (Jvm.Cond.code ({ cls := "com/example/final_marking/finalmarking/net/Variable", name := "<init>", desc := "(Ljava/lang/String;Lcom/example/final_marking/finalmarking/net/Variable$Type;)V" } : Jvm.MethodName) prog_66_method_1_code (3 : Nat) (Option.none : Option Jvm.ClassFile.FieldType)).before args0 about1 = true := code_word (m := ⟨8, 0⟩) (meth := k8m0) (c := k8c0) (by decide +kernel) rfl rfl rfl (by decide +kernel)
set_option maxRecDepth 65536 in
theorem w_c8 : (Jvm.Cond.code ({ cls := "java/lang/Record", name := "<init>", desc := "()V" } : Jvm.MethodName) jdk_30_method_1_code (1 : Nat) (Option.none : Option Jvm.ClassFile.FieldType)).before args0 about1 = true := code_word (m := ⟨7, 0⟩) (meth := k7m0) (c := k7c0) (by decide +kernel) rfl rfl rfl (by decide +kernel)
set_option maxRecDepth 65536 in
theorem w_c9 : (Jvm.Cond.code ({ cls := "java/util/Objects", name := "requireNonNull", desc := "(Ljava/lang/Object;Ljava/lang/String;)Ljava/lang/Object;" } : Jvm.MethodName) jdk_31_method_11_code (2 : Nat) (Option.some (Jvm.ClassFile.FieldType.object "java/lang/Object"))).before args0 about1 = true := code_word (m := ⟨13, 1⟩) (meth := k13m1) (c := k13c1) (by decide +kernel) rfl rfl rfl (by decide +kernel)
set_option maxRecDepth 65536 in
theorem w_c10 : (Jvm.Cond.code ({ cls := "java/lang/String", name := "isEmpty", desc := "()Z" } : Jvm.MethodName) jdk_42_method_55_code (1 : Nat) (Option.some Jvm.ClassFile.FieldType.boolean)).before args0 about1 = true := code_word (m := ⟨11, 2⟩) (meth := k11m2) (c := k11c2) (by decide +kernel) rfl rfl rfl (by decide +kernel)
set_option maxRecDepth 65536 in
theorem w_c11 : (Jvm.Cond.code ({ cls := "com/example/final_marking/finalmarking/net/Guard$Value", name := "<init>", desc := "(Lcom/example/final_marking/finalmarking/net/Variable;Z)V" } : Jvm.MethodName) prog_40_method_1_code (3 : Nat) (Option.none : Option Jvm.ClassFile.FieldType)).before args0 about1 = true := code_word (m := ⟨15, 0⟩) (meth := k15m0) (c := k15c0) (by decide +kernel) rfl rfl rfl (by decide +kernel)
set_option maxRecDepth 65536 in
theorem w_c12 : (Jvm.Cond.code ({ cls := "com/example/final_marking/finalmarking/net/Guard$Value", name := "isBoolean", desc := "()Z" } : Jvm.MethodName) prog_40_method_2_code (1 : Nat) (Option.some Jvm.ClassFile.FieldType.boolean)).before args0 about1 = true := code_word (m := ⟨15, 1⟩) (meth := k15m1) (c := k15c1) (by decide +kernel) rfl rfl rfl (by decide +kernel)
set_option maxRecDepth 65536 in
theorem w_c13 : (Jvm.Cond.code ({ cls := "com/example/final_marking/finalmarking/net/Variable", name := "type", desc := "()Lcom/example/final_marking/finalmarking/net/Variable$Type;" } : Jvm.MethodName) prog_66_method_6_code (1 : Nat) (Option.some (Jvm.ClassFile.FieldType.object "com/example/final_marking/finalmarking/net/Variable$Type"))).before args0 about1 = true := code_word (m := ⟨8, 1⟩) (meth := k8m1) (c := k8c1) (by decide +kernel) rfl rfl rfl (by decide +kernel)
set_option maxRecDepth 65536 in
theorem w_c14 : (Jvm.Cond.code ({ cls := "com/example/final_marking/finalmarking/net/Guard$Value", name := "variable", desc := "()Lcom/example/final_marking/finalmarking/net/Variable;" } : Jvm.MethodName) prog_40_method_6_code (1 : Nat) (Option.some (Jvm.ClassFile.FieldType.object "com/example/final_marking/finalmarking/net/Variable"))).before args0 about1 = true := code_word (m := ⟨15, 2⟩) (meth := k15m2) (c := k15c2) (by decide +kernel) rfl rfl rfl (by decide +kernel)
set_option maxRecDepth 65536 in
theorem w_c15 : (Jvm.Cond.code ({ cls := "com/example/final_marking/finalmarking/net/Guard$Value", name := "written", desc := "()Z" } : Jvm.MethodName) prog_40_method_7_code (1 : Nat) (Option.some Jvm.ClassFile.FieldType.boolean)).before args0 about1 = true := code_word (m := ⟨15, 3⟩) (meth := k15m3) (c := k15c3) (by decide +kernel) rfl rfl rfl (by decide +kernel)
def codes1 : List Jvm.Cond := [Jvm.Cond.code x code maxLocals ret, Jvm.Cond.code ({ cls := "java/lang/String", name := "<init>", desc := "([C)V" } : Jvm.MethodName) jdk_42_method_3_code (2 : Nat) (Option.none : Option Jvm.ClassFile.FieldType), Jvm.Cond.code ({ cls := "java/lang/String", name := "<init>", desc := "([CIILjava/lang/Void;)V" } : Jvm.MethodName) jdk_42_method_149_code (6 : Nat) (Option.none : Option Jvm.ClassFile.FieldType), Jvm.Cond.code ({ cls := "java/lang/Object", name := "<init>", desc := "()V" } : Jvm.MethodName) object_method_1_code (1 : Nat) (Option.none : Option Jvm.ClassFile.FieldType), Jvm.Cond.code ({ cls := "java/lang/StringUTF16", name := "compress", desc := "([CII)[B" } : Jvm.MethodName) jdk_52_method_16_code (6 : Nat) (Option.some (Jvm.ClassFile.FieldType.array Jvm.ClassFile.FieldType.byte)), Jvm.Cond.code ({ cls := "java/lang/StringUTF16", name := "compress", desc := "([CI[BII)I" } : Jvm.MethodName) jdk_52_method_21_code (7 : Nat) (Option.some Jvm.ClassFile.FieldType.int), Jvm.Cond.code ({ cls := "java/lang/StringUTF16", name := "coderFromArrayLen", desc := "([BI)B" } : Jvm.MethodName) jdk_52_method_15_code (2 : Nat) (Option.some Jvm.ClassFile.FieldType.byte), Jvm.Cond.code ({ cls := "com/example/final_marking/finalmarking/net/Variable", name := "<init>", desc := "(Ljava/lang/String;Lcom/example/final_marking/finalmarking/net/Variable$Type;)V" } : Jvm.MethodName) prog_66_method_1_code (3 : Nat) (Option.none : Option Jvm.ClassFile.FieldType), Jvm.Cond.code ({ cls := "java/lang/Record", name := "<init>", desc := "()V" } : Jvm.MethodName) jdk_30_method_1_code (1 : Nat) (Option.none : Option Jvm.ClassFile.FieldType), Jvm.Cond.code ({ cls := "java/util/Objects", name := "requireNonNull", desc := "(Ljava/lang/Object;Ljava/lang/String;)Ljava/lang/Object;" } : Jvm.MethodName) jdk_31_method_11_code (2 : Nat) (Option.some (Jvm.ClassFile.FieldType.object "java/lang/Object")), Jvm.Cond.code ({ cls := "java/lang/String", name := "isEmpty", desc := "()Z" } : Jvm.MethodName) jdk_42_method_55_code (1 : Nat) (Option.some Jvm.ClassFile.FieldType.boolean), Jvm.Cond.code ({ cls := "com/example/final_marking/finalmarking/net/Guard$Value", name := "<init>", desc := "(Lcom/example/final_marking/finalmarking/net/Variable;Z)V" } : Jvm.MethodName) prog_40_method_1_code (3 : Nat) (Option.none : Option Jvm.ClassFile.FieldType), Jvm.Cond.code ({ cls := "com/example/final_marking/finalmarking/net/Guard$Value", name := "isBoolean", desc := "()Z" } : Jvm.MethodName) prog_40_method_2_code (1 : Nat) (Option.some Jvm.ClassFile.FieldType.boolean), Jvm.Cond.code ({ cls := "com/example/final_marking/finalmarking/net/Variable", name := "type", desc := "()Lcom/example/final_marking/finalmarking/net/Variable$Type;" } : Jvm.MethodName) prog_66_method_6_code (1 : Nat) (Option.some (Jvm.ClassFile.FieldType.object "com/example/final_marking/finalmarking/net/Variable$Type")), Jvm.Cond.code ({ cls := "com/example/final_marking/finalmarking/net/Guard$Value", name := "variable", desc := "()Lcom/example/final_marking/finalmarking/net/Variable;" } : Jvm.MethodName) prog_40_method_6_code (1 : Nat) (Option.some (Jvm.ClassFile.FieldType.object "com/example/final_marking/finalmarking/net/Variable")), Jvm.Cond.code ({ cls := "com/example/final_marking/finalmarking/net/Guard$Value", name := "written", desc := "()Z" } : Jvm.MethodName) prog_40_method_7_code (1 : Nat) (Option.some Jvm.ClassFile.FieldType.boolean)]
set_option maxRecDepth 65536 in
theorem codes_eq : words1.filter isCode = codes1 := rfl
theorem w_codes : ∀ c ∈ words1.filter isCode, c.before args0 about1 = true := by
  rw [codes_eq]
  intro c hc
  simp only [codes1, List.mem_cons, List.not_mem_nil, or_false] at hc
  rcases hc with rfl | rfl | rfl | rfl | rfl | rfl | rfl | rfl | rfl | rfl | rfl | rfl | rfl | rfl | rfl | rfl
  · exact w_c0
  · exact w_c1
  · exact w_c2
  · exact w_c3
  · exact w_c4
  · exact w_c5
  · exact w_c6
  · exact w_c7
  · exact w_c8
  · exact w_c9
  · exact w_c10
  · exact w_c11
  · exact w_c12
  · exact w_c13
  · exact w_c14
  · exact w_c15
set_option maxRecDepth 65536 in
theorem w_t1 : (words1.take 24).all (fun c => isCode c || c.before args0 about1) = true := by decide +kernel
set_option maxRecDepth 65536 in
theorem w_t2 : ((words1.drop 24).take 24).all (fun c => isCode c || c.before args0 about1) = true := by decide +kernel
set_option maxRecDepth 65536 in
theorem w_t3 : (((words1.drop 24).drop 24).take 24).all (fun c => isCode c || c.before args0 about1) = true := by decide +kernel
set_option maxRecDepth 65536 in
theorem w_t4 : ((((words1.drop 24).drop 24).drop 24).take 24).all (fun c => isCode c || c.before args0 about1) = true := by decide +kernel
set_option maxRecDepth 65536 in
theorem w_t5 : ((((words1.drop 24).drop 24).drop 24).drop 24).all (fun c => isCode c || c.before args0 about1) = true := by decide +kernel
theorem w_tables : (allAtoms (Jvm.Cond.code x code maxLocals ret :: tables_1)).before args0 about1 = true := by
  rw [allAtoms_all]
  show words1.all (fun c => c.before args0 about1) = true
  refine all_split ?_ w_codes
  rw [← List.take_append_drop 24 words1, List.all_append, w_t1, ← List.take_append_drop 24 (words1.drop 24), List.all_append, w_t2, ← List.take_append_drop 24 ((words1.drop 24).drop 24), List.all_append, w_t3, ← List.take_append_drop 24 (((words1.drop 24).drop 24).drop 24), List.all_append, w_t4, w_t5]
  rfl
set_option maxRecDepth 65536 in
theorem w_rest : rest_1_c.before args0 about1 = true := by decide +kernel
set_option maxRecDepth 65536 in
theorem w_case : (Jvm.Cond.and given_1 narrow_1).before args0 about1 = true := by decide +kernel
theorem w_applies : (headSpec (Jvm.Cond.code x code maxLocals ret :: tables_1) room_1).applies x e0.platform about1 = true :=
  (Spec.applies_iff w_frames).mpr ⟨w_running, w_runnable, w_alone, w_named, w_hears, w_ripe, w_room, w_tables⟩
theorem atStart : AtStart classFile x code maxLocals ret World_1 tables_1 room_1 Calls_1 rest_1 Pre_1 launch0 p0 e0 about1 theMethod args0 below0 :=
  ⟨lists_1, trivial, launch0.admits_env _ _ _, launch0.least_env, fairChoices_fair.cas, fairChoices_fair.clock, w_frames, w_args, w_heap, w_applies, trivial, w_rest, w_case⟩
end start1
theorem witness_1 : WitnessClaimed_1 := ⟨start1.p0, start1.e0, start1.about1, start1.theMethod, start1.args0, start1.below0, start1.atStart⟩
end Jvm.Pilot.@@N@@
