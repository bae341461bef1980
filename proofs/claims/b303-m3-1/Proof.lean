import JvmDerived
import JvmDerived.Pilot.@@N@@Statement
import JvmDerived.Pilot.@@N@@Code
set_option linter.unusedVariables false
set_option linter.unusedSimpArgs false
@@BLOCK:NumsL.lean.txt@@
namespace Jvm.RoadKit
open Sem ClassFile Op Lib Jvm.Stand Jvm.Free Jvm.LawKit
section New
variable {p : Program} {l : Launch} {e : Env} {R : Room} {s : State} {m : MethodId} {args : Array Value} {below : List Frame} {meth : Method} {c : Code} {T : State} {locs : List Loc} {cells slots : Nat}
theorem retI (X : Stand p l e R s m args below meth c T locs cells slots) (hx : p.tables.exec = Jvm.exec) {pc : Nat} {Ls : Array Slot} {z : Int32} {rest : List Value} (hret : meth.sig.returnType = some .int) (hd : decode c.code pc = .ok (.ireturn, 1)) {fs : List Frame}
    (hl : ∀ (f : JFrame) (acts : List Action), f.method = m → f.locked = none → f.entered = [] → (doReturn e (T.setTop f) acts (some (.int z))).1 = T.setFrames fs) : Steps p.tables e below (T.setTop (mkF m pc Ls (.int z :: rest))) (T.setFrames fs) := by
  have hm' : T.vm.method? m = some meth := X.method'
  have hn : narrow .int (.int z) = .int z := rfl
  show Steps p.tables e below (T.setTop { method := m, pc := pc, locals := Ls, stack := _ :: rest, locked := none }) _
  jvm_step X.here [X.here.top, hx, hd, hm', hret, hn]
  first | (intro acts; rw [hl _ acts rfl rfl rfl]) | rw [hl _ _ rfl rfl rfl]
  exact Steps.refl _
end New
end Jvm.RoadKit
namespace Jvm.OwnRuns
open Jvm Sem ClassFile Op Lib Jvm.Stand Jvm.Free Jvm.LawKit Jvm.RoadKit
/-- from the state T the invocation comes to its end, and there Φ holds -/
def Runs (tb : Tables) (e : Env) (below : List Frame) (Φ : Outcome → State → Prop) (T : State) : Prop := ∃ s₂ o, Steps tb e below T s₂ ∧ s₂.status = .running ∧ Ended s₂ below o ∧ Φ o s₂
abbrev Phi (s : State) (Q : Option Value → Heap → List Loc → Prop) (k n : Nat) (o : Outcome) (U' : State) : Prop := ∃ v L, o = .returned v ∧ Q v U'.heap L ∧ FrameEnd s o U' L k n
theorem Runs.st {tb : Tables} {e : Env} {below : List Frame} {Φ : Outcome → State → Prop} {T T' : State} (h : ∀ t, Steps tb e below T' t → Steps tb e below T t) (r : Runs tb e below Φ T') : Runs tb e below Φ T := by
  obtain ⟨a, o, h1, h2⟩ := r
  exact ⟨a, o, h a h1, h2⟩
theorem Runs.tr {tb : Tables} {e : Env} {below : List Frame} {Φ : Outcome → State → Prop} {T T' : State} (h : Steps tb e below T T') (r : Runs tb e below Φ T') : Runs tb e below Φ T := Runs.st (fun _ k => h.trans k) r
section Laws
variable {p : Program} {l : Launch} {e : Env} {R : Room} {s : State} {m : MethodId} {args : Array Value} {below : List Frame} {meth : Method} {c : Code} {T : State} {locs : List Loc} {cells slots : Nat}
theorem Runs.ret (X : Stand p l e R s m args below meth c T locs cells slots) (hlk : meth.locks = false) {v : Option Value} (hv : meth.sig.returnType = none → v = none) {Q : Option Value → Heap → List Loc → Prop} {k n : Nat} (hk : cells ≤ k) (hn : slots ≤ n) (hQ : Q v T.heap locs) {T0 : State}
    (hst : ∀ fs : List Frame, (∀ (f : JFrame) (acts : List Action), f.method = m → f.locked = none → f.entered = [] → (doReturn e (T.setTop f) acts v).1 = T.setFrames fs) → Steps p.tables e below T0 (T.setFrames fs)) : Runs p.tables e below (Phi s Q k n) T0 := by
  obtain ⟨fs, hr, hrun, hended, hW, hsame⟩ := X.leave hv hlk
  exact ⟨_, _, hst fs hr, hrun, hended, _, _, rfl, hQ, ⟨_, rfl⟩, hW, hsame.mono hk hn⟩
theorem wider (X : Stand p l e R s m args below meth c T locs cells slots) {c' s' : Nat} (hc : cells ≤ c') (hs : slots ≤ s') : Stand p l e R s m args below meth c T locs c' s' := { X with same := X.same.mono hc hs }
abbrev PhiW (s : State) (Q : Option Value → Heap → List Loc → Prop) (k n : Nat) (o : Outcome) (U' : State) : Prop := ∃ v L, o = .returned v ∧ Q v U'.heap L ∧ ReturnedEndW s o U' L k n
theorem Runs.retW {vm₁ : Vm} (X : Stand p l e R (s.setVm vm₁) m args below meth c T locs cells slots) {n1 : Nat} (hS : s.Since vm₁ n1) (hk1 : n1 ≤ T.heap.size) (hlk : meth.locks = false) {v : Option Value} (hv : meth.sig.returnType = none → v = none) {Q : Option Value → Heap → List Loc → Prop} {k n : Nat} (hk : cells ≤ k) (hn : slots ≤ n) (hQ : Q v T.heap locs) {T0 : State}
    (hst : ∀ fs : List Frame, (∀ (f : JFrame) (acts : List Action), f.method = m → f.locked = none → f.entered = [] → (doReturn e (T.setTop f) acts v).1 = T.setFrames fs) → Steps p.tables e below T0 (T.setFrames fs)) : Runs p.tables e below (PhiW s Q k n) T0 := by
  obtain ⟨fs, hr, hrun, hended, hW⟩ := (wider X hk hn).leaveW hS hk1 hv hlk
  exact ⟨_, _, hst fs hr, hrun, hended, _, _, rfl, hQ, hW⟩
abbrev PhiH (Z : State) (EL : List (String × Nat)) (s : State) (Q : Option Value → Heap → List Loc → Prop) (k n : Nat) (o : Outcome) (U' : State) : Prop := ∃ v L, o = .returned v ∧ Q v U'.heap L ∧ CHr Z EL s.vm s.heap U'.vm U'.heap ∧ ReturnedEndW s o U' L k n
theorem Runs.retH {Z : State} {EL : List (String × Nat)} {vm₁ : Vm} (X : Stand p l e R (s.setVm vm₁) m args below meth c T locs cells slots) {n1 : Nat} (hS : s.Since vm₁ n1) (hk1 : n1 ≤ T.heap.size) (hlk : meth.locks = false) {v : Option Value} (hv : meth.sig.returnType = none → v = none) {Q : Option Value → Heap → List Loc → Prop} {k n : Nat} (hk : cells ≤ k) (hn : slots ≤ n) (hQ : Q v T.heap locs) (hC : CHr Z EL s.vm s.heap T.vm T.heap) {T0 : State}
    (hst : ∀ fs : List Frame, (∀ (f : JFrame) (acts : List Action), f.method = m → f.locked = none → f.entered = [] → (doReturn e (T.setTop f) acts v).1 = T.setFrames fs) → Steps p.tables e below T0 (T.setFrames fs)) : Runs p.tables e below (PhiH Z EL s Q k n) T0 := by
  obtain ⟨fs, hr, hrun, hended, hW⟩ := (wider X hk hn).leaveW hS hk1 hv hlk
  exact ⟨_, _, hst fs hr, hrun, hended, _, _, rfl, hQ, hC, hW⟩
end Laws
section Facts
variable {Z : State} {h h' : Heap} {a : Addr} {C n d : String} {v : Value} {bo : Bool} {ws : List Addr}
theorem Ins_keep (F : Ins Z h a C bo) (K : Keep h h' ws) : Ins Z h' a C bo := by
  obtain ⟨cell, cT, h1, h2, h3⟩ := F
  obtain ⟨c', e1, e2, e3, -⟩ := K.2.2 _ _ h1
  exact ⟨c', cT, e1, h2, by rw [e2, e3]; exact h3⟩
theorem narrow_ref {t : FieldType} {v : Value} (h : v.isRef = true) : narrow t v = v := by rcases ref_cases h with rfl | ⟨_, rfl⟩ <;> cases t <;> rfl
end Facts
end Jvm.OwnRuns
namespace Jvm.OwnRuns
open Jvm Sem ClassFile Op Lib Jvm.Stand Jvm.Free Jvm.LawKit Jvm.RoadKit
section Words
variable {args : Array Value} {s : State} {t : Term}
theorem val_int {k : Int32} (h : (Cond.eq t (.int k)).value args s none s [] = some true) : t.eval args s none [] s = some (.int k) := Cond.eq_int (Cond.before_iff.mpr h) rfl
theorem the_static {C n d K : String} (h : (Cond.exactly (.static C n d) K).value args s none s [] = some true) (h1 : (Cond.initialized C).before args s = true) (h2 : (Cond.laysStatic C n d).before args s = true) :
    ∃ a, (Term.static C n d).eval args s none [] s = some (.ref a) ∧ Sta s s.heap C n d (.ref a) ∧ Exa s s.heap a K := by
  obtain ⟨a, e⟩ := exa_v h
  exact ⟨a, e, Sta.start e (Or.inr ⟨h1, h2⟩), Exa.start e h⟩
theorem the_int {C n d : String} {a : Addr} {k : Int32} (e : t.eval args s none [] s = some (.ref a)) (h : (Cond.eq (.field t C n d) (.int k)).value args s none s [] = some true) : Fld s s.heap a C n d (.int k) :=
  Fld.start ((fld_at e).symm.trans (val_int h))
theorem the_ref {C n d K : String} {a : Addr} (e : t.eval args s none [] s = some (.ref a)) (h : (Cond.exactly (.field t C n d) K).value args s none s [] = some true) :
    ∃ b, (Term.field t C n d).eval args s none [] s = some (.ref b) ∧ Fld s s.heap a C n d (.ref b) ∧ Exa s s.heap b K := by
  obtain ⟨b, eb⟩ := exa_v h
  exact ⟨b, eb, Fld.start ((fld_at e).symm.trans eb), Exa.start eb h⟩
theorem the_arr {C n d : String} {ty : FieldType} {a : Addr} (e : t.eval args s none [] s = some (.ref a)) (h : (Cond.arrayOf (.field t C n d) ty).value args s none s [] = some true) :
    ∃ b cl, (Term.field t C n d).eval args s none [] s = some (.ref b) ∧ Fld s s.heap a C n d (.ref b) ∧ Arr s s.heap b cl ty := by
  obtain ⟨b, eb⟩ := arr_v h
  obtain ⟨cl, A⟩ := Arr.start eb h
  exact ⟨b, cl, eb, Fld.start ((fld_at e).symm.trans eb), A⟩
theorem the_len {b : Addr} {cl : Cell} {ty : FieldType} {z : Int32} (e : t.eval args s none [] s = some (.ref b)) (A : Arr s s.heap b cl ty) (h : (Cond.eq (.length t) (.int z)).value args s none s [] = some true) : cl.slots.size < 2 ^ 31 ∧ cl.slots.size.toInt32 = z := by
  have hv := val_int h
  obtain ⟨x, c', e1, e2, -⟩ := Term.length_spec hv
  cases e.symm.trans e1
  have e3 := A.fin (Vm.Alike.refl _)
  cases e2.symm.trans e3
  have h31 := SBG.length_lt e1 e2 hv
  exact ⟨h31, Value.int.inj (Option.some.inj ((len_f e e3 h31).symm.trans hv))⟩
theorem the_elem {b : Addr} {cl : Cell} {ty : FieldType} {j k : Int32} (e : t.eval args s none [] s = some (.ref b)) (A : Arr s s.heap b cl ty) (h : (Cond.eq (.elem t (.int j)) (.int k)).value args s none s [] = some true) : cl.slots[j.toNatClampNeg]? = some (.int k) :=
  (elem_in (val_int h) e rfl A.1).2
end Words
end Jvm.OwnRuns
namespace Jvm.OwnRuns
open Jvm Sem ClassFile Op Lib Jvm.Stand Jvm.Free Jvm.LawKit Jvm.RoadKit
theorem fld_one {Z : State} {h : Heap} {a b d : Addr} {C n t : String} (F : Fld Z h a C n t (.ref b)) (G : Fld Z h a C n t (.ref d)) : b = d := by
  obtain ⟨c1, _, _, _, f1, h1, h2, -, -, -, -, h7⟩ := F
  obtain ⟨c2, _, _, _, f2, g1, g2, -, -, -, -, g7⟩ := G
  cases h1.symm.trans g1; cases h2.symm.trans g2
  exact Value.ref.inj (Option.some.inj (h7.symm.trans g7))
theorem arv_len {Z : State} {h : Heap} {a : Addr} {k k' : ClassId} {ty ty' : FieldType} {z z' : Int32} {vs vs' : List Value} {d d' : Value} (F : Arv Z h a k ty z vs d) (G : Arv Z h a k' ty' z' vs' d') : z = z' := by
  obtain ⟨c1, A1, -, S1, M1, -⟩ := F
  obtain ⟨c2, A2, -, S2, M2, -⟩ := G
  cases A1.1.symm.trans A2.1
  rw [← len_of S1 M1, ← len_of S2 M2]
end Jvm.OwnRuns
namespace Jvm.Pilot.@@N@@
open Jvm Jvm.ClassFile Sem Op Lib Jvm.Free Jvm.Stand Jvm.LawKit Jvm.RoadKit Bundle Jvm.OwnRuns Jvm.Pilot.@@N@@.Jvm.D
theorem own_u (x : Int32) : ¬ ((255 : Int32) < ((x &&& (255 : Int32)).toUInt32.toUInt16.toUInt32.toInt32)) := by
  have a : (x &&& (255 : Int32)).toInt = x.toInt % 2 ^ 8 := Jvm.Kit.i32_mask x 255 (k := 8) (by decide) (by decide)
  rw [Int32.lt_iff_toInt_lt]
  have b := c_i2c (x &&& (255 : Int32))
  change ¬ ((255 : Int) < _)
  omega
theorem own_un (x : Int32) : ¬ ((255 : Int32) < nar .char ((x &&& (255 : Int32)).toUInt32.toUInt16.toUInt32.toInt32)) := by
  have a : (x &&& (255 : Int32)).toInt = x.toInt % 2 ^ 8 := Jvm.Kit.i32_mask x 255 (k := 8) (by decide) (by decide)
  rw [Int32.lt_iff_toInt_lt]
  simp only [nar]
  have b := c_i2c (x &&& (255 : Int32))
  have c := c_i2c ((x &&& (255 : Int32)).toUInt32.toUInt16.toUInt32.toInt32)
  change ¬ ((255 : Int) < _)
  omega
def Q_rmCA2 (Z : State) (a : Addr) (b : Addr) (c0 c1 : Int32) (k1 k2 : ClassId) (h0 : Heap) (n0 : Nat) : Option Value → Heap → List Loc → Prop := (fun v h L => v = some (.int (2 : Int32)) ∧ Fr n0 L ∧ Keep h0 h [b] ∧ Arv Z h b k2 .byte (2 : Int32) [(.int (nar .byte (c0.toInt8.toInt32))), (.int (nar .byte (c1.toInt8.toInt32)))] (.int (0 : Int32)))
theorem pn_java_lang_StringUTF16 : plainName "java/lang/StringUTF16" = true := by first | (simp [plainName, overriddenIn]; done) | decide +kernel
theorem ef_jdk_52_method_21_RIRII (m : MethodId) (x0 : Addr) (x1 : Int32) (x2 : Addr) (x3 : Int32) (x4 : Int32)  : entryFrame m #[(.ref x0), (.int x1), (.ref x2), (.int x3), (.int x4)] 7 = mkF m 0 #[.val (.ref x0), .val (.int x1), .val (.ref x2), .val (.int x3), .val (.int x4), .unset, .unset] [] := by first | (simp [entryFrame, mkF, argsToLocals, Value.category]; done) | rfl
theorem d_jdk_52_method_21_0 : decode jdk_52_method_21_code 0 = .ok (.iconst 0, 1) := by decide +kernel
theorem d_jdk_52_method_21_1 : decode jdk_52_method_21_code 1 = .ok (.istore 5, 2) := by decide +kernel
theorem d_jdk_52_method_21_3 : decode jdk_52_method_21_code 3 = .ok (.iload 5, 2) := by decide +kernel
theorem d_jdk_52_method_21_5 : decode jdk_52_method_21_code 5 = .ok (.iload 4, 2) := by decide +kernel
theorem d_jdk_52_method_21_7 : decode jdk_52_method_21_code 7 = .ok (.if_icmp .ge 37, 3) := by decide +kernel
theorem d_jdk_52_method_21_10 : decode jdk_52_method_21_code 10 = .ok (.aload_n 0, 1) := by decide +kernel
theorem d_jdk_52_method_21_11 : decode jdk_52_method_21_code 11 = .ok (.iload_n 1, 1) := by decide +kernel
theorem d_jdk_52_method_21_12 : decode jdk_52_method_21_code 12 = .ok (.caload, 1) := by decide +kernel
theorem d_jdk_52_method_21_13 : decode jdk_52_method_21_code 13 = .ok (.istore 6, 2) := by decide +kernel
theorem d_jdk_52_method_21_15 : decode jdk_52_method_21_code 15 = .ok (.iload 6, 2) := by decide +kernel
theorem d_jdk_52_method_21_17 : decode jdk_52_method_21_code 17 = .ok (.sipush 255, 3) := by decide +kernel
theorem d_jdk_52_method_21_20 : decode jdk_52_method_21_code 20 = .ok (.if_icmp .le 6, 3) := by decide +kernel
theorem d_jdk_52_method_21_26 : decode jdk_52_method_21_code 26 = .ok (.aload_n 2, 1) := by decide +kernel
theorem d_jdk_52_method_21_27 : decode jdk_52_method_21_code 27 = .ok (.iload_n 3, 1) := by decide +kernel
theorem d_jdk_52_method_21_28 : decode jdk_52_method_21_code 28 = .ok (.iload 6, 2) := by decide +kernel
theorem d_jdk_52_method_21_30 : decode jdk_52_method_21_code 30 = .ok (.i2b, 1) := by decide +kernel
theorem d_jdk_52_method_21_31 : decode jdk_52_method_21_code 31 = .ok (.bastore, 1) := by decide +kernel
theorem d_jdk_52_method_21_32 : decode jdk_52_method_21_code 32 = .ok (.iinc 1 1, 3) := by decide +kernel
theorem d_jdk_52_method_21_35 : decode jdk_52_method_21_code 35 = .ok (.iinc 3 1, 3) := by decide +kernel
theorem d_jdk_52_method_21_38 : decode jdk_52_method_21_code 38 = .ok (.iinc 5 1, 3) := by decide +kernel
theorem d_jdk_52_method_21_41 : decode jdk_52_method_21_code 41 = .ok (.goto (-38), 3) := by decide +kernel
theorem d_jdk_52_method_21_44 : decode jdk_52_method_21_code 44 = .ok (.iload 4, 2) := by decide +kernel
theorem d_jdk_52_method_21_46 : decode jdk_52_method_21_code 46 = .ok (.ireturn, 1) := by decide +kernel
set_option maxRecDepth 65536 in
set_option maxHeartbeats 40000000 in
theorem rmCA2 (l : Launch) (Z : State) (a0 : Array Value) (hw : ∀ d ∈ tables_1, d.before a0 Z = true) (ws : List Jvm.Cond) (a : Addr) (b : Addr) (c0 c1 : Int32) (k1 k2 : ClassId) (h0 : Heap) (n0 : Nat) (Z0 : n0 ≤ h0.size) (V_a : Arv Z h0 a k1 .char (2 : Int32) [(.int c0), (.int c1)] (.int (0 : Int32))) (V_b : Arv Z h0 b k2 .byte (2 : Int32) [(.int (0 : Int32)), (.int (0 : Int32))] (.int (0 : Int32))) (ne_a_b : a ≠ b) (g_b : n0 ≤ b) (u0 : ¬ ((255 : Int32) < c0)) (u1 : ¬ ((255 : Int32) < c1)) :
    MetFree l (⟨"java/lang/StringUTF16", "compress", "([CI[BII)I"⟩ : MethodName) (head1 (Jvm.Cond.code (⟨"java/lang/StringUTF16", "compress", "([CI[BII)I"⟩ : MethodName) jdk_52_method_21_code 7 (some .int) :: ws) ({ frames := 0, cells := 0, slots := 0, locals := 0 } : Room)) (fun ar_ U => ar_ = #[(.ref a), (.int (0 : Int32)), (.ref b), (.int (0 : Int32)), (.int (2 : Int32))] ∧ Z.Warmed39 U.vm ∧ U.heap = h0) (fun _ _ _ _ _ => True) (fun _ U o U' => Phi U (Q_rmCA2 Z a b c0 c1 k1 k2 h0 n0) ({ frames := 0, cells := 0, slots := 0, locals := 0 } : Room).cells ({ frames := 0, cells := 0, slots := 0, locals := 0 } : Room).slots o U') := by
  refine MetFree.of_bodySF (plainFor_of_name pn_java_lang_StringUTF16) hisR ?_
  intro p e s m args below meth c s₁ Bd hml0 hP hK
  obtain ⟨rfl, hZ, hh⟩ := hP
  have hx := Bd.exec
  have hby := Bd.bytes
  have hlk := Bd.notSynchronized
  have hml : c.maxLocals = 7 := hml0
  have hown : s.vm.findClass "java/lang/StringUTF16" = some m.cls := findClass_of_methodNamed Bd.named
  have hown0 := hown
  have hnm := (name_of_methodNamed Bd.named Bd.method).1
  have hret := Bd.returns
  have X0 : Stand p l e ({ frames := 0, cells := 0, slots := 0, locals := 0 } : Room) s m #[(.ref a), (.int (0 : Int32)), (.ref b), (.int (0 : Int32)), (.int (2 : Int32))] below meth c s₁ [] 0 0 := Stand.of_body Bd
  have e0 : s₁.heap = h0 := by rw [← hh, Bd.state]; rfl
  have N0 := Fr.nil n0
  have sz := Z0
  have K := Keep.refl h0 [b]
  show Runs p.tables e below (Phi s (Q_rmCA2 Z a b c0 c1 k1 k2 h0 n0) ({ frames := 0, cells := 0, slots := 0, locals := 0 } : Room).cells ({ frames := 0, cells := 0, slots := 0, locals := 0 } : Room).slots) _
  refine Runs.st (fun t' k' => castTop (ef_jdk_52_method_21_RIRII m a (0 : Int32) b (0 : Int32) (2 : Int32) ) k') ?_
  show Runs p.tables e below _ (s₁.setTop (mkF m 0 #[.val (.ref a), .val (.int (0 : Int32)), .val (.ref b), .val (.int (0 : Int32)), .val (.int (2 : Int32)), .unset, .unset] []))
  refine Runs.st (fun t' k' => XS.iconst X0.here hx rfl (hb hby d_jdk_52_method_21_0) k') ?_
  show Runs p.tables e below _ (s₁.setTop (mkF m 1 #[.val (.ref a), .val (.int (0 : Int32)), .val (.ref b), .val (.int (0 : Int32)), .val (.int (2 : Int32)), .unset, .unset] [(.int (0 : Int32))]))
  refine Runs.st (fun t' k' => XS.istore X0.here hx rfl (hb hby d_jdk_52_method_21_1) rfl (l' := #[.val (.ref a), .val (.int (0 : Int32)), .val (.ref b), .val (.int (0 : Int32)), .val (.int (2 : Int32)), .val (.int (0 : Int32)), .unset]) rfl k') ?_
  show Runs p.tables e below _ (s₁.setTop (mkF m 3 #[.val (.ref a), .val (.int (0 : Int32)), .val (.ref b), .val (.int (0 : Int32)), .val (.int (2 : Int32)), .val (.int (0 : Int32)), .unset] []))
  refine Runs.st (fun t' k' => XS.iload X0.here hx rfl (hb hby d_jdk_52_method_21_3) rfl k') ?_
  show Runs p.tables e below _ (s₁.setTop (mkF m 5 #[.val (.ref a), .val (.int (0 : Int32)), .val (.ref b), .val (.int (0 : Int32)), .val (.int (2 : Int32)), .val (.int (0 : Int32)), .unset] [(.int (0 : Int32))]))
  refine Runs.st (fun t' k' => XS.iload X0.here hx rfl (hb hby d_jdk_52_method_21_5) rfl k') ?_
  show Runs p.tables e below _ (s₁.setTop (mkF m 7 #[.val (.ref a), .val (.int (0 : Int32)), .val (.ref b), .val (.int (0 : Int32)), .val (.int (2 : Int32)), .val (.int (0 : Int32)), .unset] [(.int (2 : Int32)), (.int (0 : Int32))]))
  refine Runs.st (fun t' k' => XS.icmpNo X0.here hx rfl (hb hby d_jdk_52_method_21_7) rfl (tlt (by decide)).2.1 k') ?_
  show Runs p.tables e below _ (s₁.setTop (mkF m 10 #[.val (.ref a), .val (.int (0 : Int32)), .val (.ref b), .val (.int (0 : Int32)), .val (.int (2 : Int32)), .val (.int (0 : Int32)), .unset] []))
  refine Runs.st (fun t' k' => XS.aloadN X0.here hx rfl (hb hby d_jdk_52_method_21_10) rfl rfl k') ?_
  show Runs p.tables e below _ (s₁.setTop (mkF m 11 #[.val (.ref a), .val (.int (0 : Int32)), .val (.ref b), .val (.int (0 : Int32)), .val (.int (2 : Int32)), .val (.int (0 : Int32)), .unset] [(.ref a)]))
  refine Runs.st (fun t' k' => XS.iloadN X0.here hx rfl (hb hby d_jdk_52_method_21_11) rfl k') ?_
  show Runs p.tables e below _ (s₁.setTop (mkF m 12 #[.val (.ref a), .val (.int (0 : Int32)), .val (.ref b), .val (.int (0 : Int32)), .val (.int (2 : Int32)), .val (.int (0 : Int32)), .unset] [(.int (0 : Int32)), (.ref a)]))
  obtain ⟨cl1_, Ar1_, -, S1_, M1_, Ha1_, -⟩ := id V_a
  have hin1_ : ¬ ((0 : Int32) < 0 ∨ cl1_.slots.size ≤ ((0 : Int32)).toNatClampNeg) := inb_of S1_ ⟨by decide, by decide⟩
  refine Runs.st (X0.caload hx (j := (0 : Int32)) (v := (.int c0)) (by rw [e0]; exact Ar1_.1) (State.isArrayOf_alike hZ.alike Ar1_.2.1) Ar1_.2.2 hin1_ (Ha1_.at hin1_ rfl) (g := (mkF m 12 #[.val (.ref a), .val (.int (0 : Int32)), .val (.ref b), .val (.int (0 : Int32)), .val (.int (2 : Int32)), .val (.int (0 : Int32)), .unset] [(.int (0 : Int32)), (.ref a)])) rfl rfl (hb hby d_jdk_52_method_21_12)) ?_
  show Runs p.tables e below _ (s₁.setTop (mkF m 13 #[.val (.ref a), .val (.int (0 : Int32)), .val (.ref b), .val (.int (0 : Int32)), .val (.int (2 : Int32)), .val (.int (0 : Int32)), .unset] [(.int c0)]))
  refine Runs.st (fun t' k' => XS.istore X0.here hx rfl (hb hby d_jdk_52_method_21_13) rfl (l' := #[.val (.ref a), .val (.int (0 : Int32)), .val (.ref b), .val (.int (0 : Int32)), .val (.int (2 : Int32)), .val (.int (0 : Int32)), .val (.int c0)]) rfl k') ?_
  show Runs p.tables e below _ (s₁.setTop (mkF m 15 #[.val (.ref a), .val (.int (0 : Int32)), .val (.ref b), .val (.int (0 : Int32)), .val (.int (2 : Int32)), .val (.int (0 : Int32)), .val (.int c0)] []))
  refine Runs.st (fun t' k' => XS.iload X0.here hx rfl (hb hby d_jdk_52_method_21_15) rfl k') ?_
  show Runs p.tables e below _ (s₁.setTop (mkF m 17 #[.val (.ref a), .val (.int (0 : Int32)), .val (.ref b), .val (.int (0 : Int32)), .val (.int (2 : Int32)), .val (.int (0 : Int32)), .val (.int c0)] [(.int c0)]))
  refine Runs.st (fun t' k' => XS.sipush X0.here hx rfl (hb hby d_jdk_52_method_21_17) k') ?_
  show Runs p.tables e below _ (s₁.setTop (mkF m 20 #[.val (.ref a), .val (.int (0 : Int32)), .val (.ref b), .val (.int (0 : Int32)), .val (.int (2 : Int32)), .val (.int (0 : Int32)), .val (.int c0)] [(.int (255 : Int32)), (.int c0)]))
  refine Runs.st (fun t' k' => XS.icmpYes X0.here hx rfl (pc0 := 20) (pc' := 26) rfl (hb hby d_jdk_52_method_21_20) rfl (flt u0).2.2.2 (by decide) (by decide) k') ?_
  show Runs p.tables e below _ (s₁.setTop (mkF m 26 #[.val (.ref a), .val (.int (0 : Int32)), .val (.ref b), .val (.int (0 : Int32)), .val (.int (2 : Int32)), .val (.int (0 : Int32)), .val (.int c0)] []))
  refine Runs.st (fun t' k' => XS.aloadN X0.here hx rfl (hb hby d_jdk_52_method_21_26) rfl rfl k') ?_
  show Runs p.tables e below _ (s₁.setTop (mkF m 27 #[.val (.ref a), .val (.int (0 : Int32)), .val (.ref b), .val (.int (0 : Int32)), .val (.int (2 : Int32)), .val (.int (0 : Int32)), .val (.int c0)] [(.ref b)]))
  refine Runs.st (fun t' k' => XS.iloadN X0.here hx rfl (hb hby d_jdk_52_method_21_27) rfl k') ?_
  show Runs p.tables e below _ (s₁.setTop (mkF m 28 #[.val (.ref a), .val (.int (0 : Int32)), .val (.ref b), .val (.int (0 : Int32)), .val (.int (2 : Int32)), .val (.int (0 : Int32)), .val (.int c0)] [(.int (0 : Int32)), (.ref b)]))
  refine Runs.st (fun t' k' => XS.iload X0.here hx rfl (hb hby d_jdk_52_method_21_28) rfl k') ?_
  show Runs p.tables e below _ (s₁.setTop (mkF m 30 #[.val (.ref a), .val (.int (0 : Int32)), .val (.ref b), .val (.int (0 : Int32)), .val (.int (2 : Int32)), .val (.int (0 : Int32)), .val (.int c0)] [(.int c0), (.int (0 : Int32)), (.ref b)]))
  refine Runs.st (fun t' k' => XS.i2b X0.here hx rfl (hb hby d_jdk_52_method_21_30) rfl k') ?_
  show Runs p.tables e below _ (s₁.setTop (mkF m 31 #[.val (.ref a), .val (.int (0 : Int32)), .val (.ref b), .val (.int (0 : Int32)), .val (.int (2 : Int32)), .val (.int (0 : Int32)), .val (.int c0)] [(.int (c0.toInt8.toInt32)), (.int (0 : Int32)), (.ref b)]))
  obtain ⟨cl2_, Ar2_, q2_, S2_, M2_, Ha2_, G2_⟩ := V_b
  have hin2_ : ¬ ((0 : Int32) < 0 ∨ cl2_.slots.size ≤ ((0 : Int32)).toNatClampNeg) := inb_of S2_ ⟨by decide, by decide⟩
  obtain ⟨T2_, h2_, X2_, e2_, W2_, st2_⟩ := stB X0 hx hZ e0 Ar2_ (j := (0 : Int32)) hin2_ (g := (mkF m 31 #[.val (.ref a), .val (.int (0 : Int32)), .val (.ref b), .val (.int (0 : Int32)), .val (.int (2 : Int32)), .val (.int (0 : Int32)), .val (.int c0)] [(.int (c0.toInt8.toInt32)), (.int (0 : Int32)), (.ref b)])) rfl rfl (hb hby d_jdk_52_method_21_31)
  refine Runs.st (st2_) ?_
  have V_b := Arv.set Ar2_ q2_ S2_ M2_ Ha2_ G2_ (fits_nar_byte _) W2_ 0 rfl (Nat.le_of_ble_eq_true rfl)
  replace V_a := V_a.other W2_ ne_a_b
  replace sz := Nat.le_trans sz (Keep.of_wr W2_).1
  have N2_ := Fr.snoc X2_ N0 g_b
  replace K := K.wr W2_ (Or.inl (List.mem_of_getElem? (i := 0) rfl))
  show Runs p.tables e below _ (T2_.setTop (mkF m 32 #[.val (.ref a), .val (.int (0 : Int32)), .val (.ref b), .val (.int (0 : Int32)), .val (.int (2 : Int32)), .val (.int (0 : Int32)), .val (.int c0)] []))
  refine Runs.st (fun t' k' => XS.iinc X2_.here hx rfl (hb hby d_jdk_52_method_21_32) rfl (l' := #[.val (.ref a), .val (.int ((0 : Int32) + (1 : Int32))), .val (.ref b), .val (.int (0 : Int32)), .val (.int (2 : Int32)), .val (.int (0 : Int32)), .val (.int c0)]) rfl k') ?_
  show Runs p.tables e below _ (T2_.setTop (mkF m 35 #[.val (.ref a), .val (.int ((0 : Int32) + (1 : Int32))), .val (.ref b), .val (.int (0 : Int32)), .val (.int (2 : Int32)), .val (.int (0 : Int32)), .val (.int c0)] []))
  refine Runs.st (fun t' k' => XS.iinc X2_.here hx rfl (hb hby d_jdk_52_method_21_35) rfl (l' := #[.val (.ref a), .val (.int ((0 : Int32) + (1 : Int32))), .val (.ref b), .val (.int ((0 : Int32) + (1 : Int32))), .val (.int (2 : Int32)), .val (.int (0 : Int32)), .val (.int c0)]) rfl k') ?_
  show Runs p.tables e below _ (T2_.setTop (mkF m 38 #[.val (.ref a), .val (.int ((0 : Int32) + (1 : Int32))), .val (.ref b), .val (.int ((0 : Int32) + (1 : Int32))), .val (.int (2 : Int32)), .val (.int (0 : Int32)), .val (.int c0)] []))
  refine Runs.st (fun t' k' => XS.iinc X2_.here hx rfl (hb hby d_jdk_52_method_21_38) rfl (l' := #[.val (.ref a), .val (.int ((0 : Int32) + (1 : Int32))), .val (.ref b), .val (.int ((0 : Int32) + (1 : Int32))), .val (.int (2 : Int32)), .val (.int ((0 : Int32) + (1 : Int32))), .val (.int c0)]) rfl k') ?_
  show Runs p.tables e below _ (T2_.setTop (mkF m 41 #[.val (.ref a), .val (.int ((0 : Int32) + (1 : Int32))), .val (.ref b), .val (.int ((0 : Int32) + (1 : Int32))), .val (.int (2 : Int32)), .val (.int ((0 : Int32) + (1 : Int32))), .val (.int c0)] []))
  rw [show ((0 : Int32) + (1 : Int32)) = (1 : Int32) from rfl]
  show Runs p.tables e below _ (T2_.setTop (mkF m 41 #[.val (.ref a), .val (.int (1 : Int32)), .val (.ref b), .val (.int (1 : Int32)), .val (.int (2 : Int32)), .val (.int (1 : Int32)), .val (.int c0)] []))
  refine Runs.st (fun t' k' => XS.goto X2_.here hx rfl (pc0 := 41) (pc' := 3) rfl (hb hby d_jdk_52_method_21_41) (by decide) (by decide) k') ?_
  show Runs p.tables e below _ (T2_.setTop (mkF m 3 #[.val (.ref a), .val (.int (1 : Int32)), .val (.ref b), .val (.int (1 : Int32)), .val (.int (2 : Int32)), .val (.int (1 : Int32)), .val (.int c0)] []))
  refine Runs.st (fun t' k' => XS.iload X2_.here hx rfl (hb hby d_jdk_52_method_21_3) rfl k') ?_
  show Runs p.tables e below _ (T2_.setTop (mkF m 5 #[.val (.ref a), .val (.int (1 : Int32)), .val (.ref b), .val (.int (1 : Int32)), .val (.int (2 : Int32)), .val (.int (1 : Int32)), .val (.int c0)] [(.int (1 : Int32))]))
  refine Runs.st (fun t' k' => XS.iload X2_.here hx rfl (hb hby d_jdk_52_method_21_5) rfl k') ?_
  show Runs p.tables e below _ (T2_.setTop (mkF m 7 #[.val (.ref a), .val (.int (1 : Int32)), .val (.ref b), .val (.int (1 : Int32)), .val (.int (2 : Int32)), .val (.int (1 : Int32)), .val (.int c0)] [(.int (2 : Int32)), (.int (1 : Int32))]))
  refine Runs.st (fun t' k' => XS.icmpNo X2_.here hx rfl (hb hby d_jdk_52_method_21_7) rfl (tlt (by decide)).2.1 k') ?_
  show Runs p.tables e below _ (T2_.setTop (mkF m 10 #[.val (.ref a), .val (.int (1 : Int32)), .val (.ref b), .val (.int (1 : Int32)), .val (.int (2 : Int32)), .val (.int (1 : Int32)), .val (.int c0)] []))
  refine Runs.st (fun t' k' => XS.aloadN X2_.here hx rfl (hb hby d_jdk_52_method_21_10) rfl rfl k') ?_
  show Runs p.tables e below _ (T2_.setTop (mkF m 11 #[.val (.ref a), .val (.int (1 : Int32)), .val (.ref b), .val (.int (1 : Int32)), .val (.int (2 : Int32)), .val (.int (1 : Int32)), .val (.int c0)] [(.ref a)]))
  refine Runs.st (fun t' k' => XS.iloadN X2_.here hx rfl (hb hby d_jdk_52_method_21_11) rfl k') ?_
  show Runs p.tables e below _ (T2_.setTop (mkF m 12 #[.val (.ref a), .val (.int (1 : Int32)), .val (.ref b), .val (.int (1 : Int32)), .val (.int (2 : Int32)), .val (.int (1 : Int32)), .val (.int c0)] [(.int (1 : Int32)), (.ref a)]))
  obtain ⟨cl3_, Ar3_, -, S3_, M3_, Ha3_, -⟩ := id V_a
  have hin3_ : ¬ ((1 : Int32) < 0 ∨ cl3_.slots.size ≤ ((1 : Int32)).toNatClampNeg) := inb_of S3_ ⟨by decide, by decide⟩
  refine Runs.st (X2_.caload hx (j := (1 : Int32)) (v := (.int c1)) (by rw [e2_]; exact Ar3_.1) (State.isArrayOf_alike hZ.alike Ar3_.2.1) Ar3_.2.2 hin3_ (Ha3_.at hin3_ rfl) (g := (mkF m 12 #[.val (.ref a), .val (.int (1 : Int32)), .val (.ref b), .val (.int (1 : Int32)), .val (.int (2 : Int32)), .val (.int (1 : Int32)), .val (.int c0)] [(.int (1 : Int32)), (.ref a)])) rfl rfl (hb hby d_jdk_52_method_21_12)) ?_
  show Runs p.tables e below _ (T2_.setTop (mkF m 13 #[.val (.ref a), .val (.int (1 : Int32)), .val (.ref b), .val (.int (1 : Int32)), .val (.int (2 : Int32)), .val (.int (1 : Int32)), .val (.int c0)] [(.int c1)]))
  refine Runs.st (fun t' k' => XS.istore X2_.here hx rfl (hb hby d_jdk_52_method_21_13) rfl (l' := #[.val (.ref a), .val (.int (1 : Int32)), .val (.ref b), .val (.int (1 : Int32)), .val (.int (2 : Int32)), .val (.int (1 : Int32)), .val (.int c1)]) rfl k') ?_
  show Runs p.tables e below _ (T2_.setTop (mkF m 15 #[.val (.ref a), .val (.int (1 : Int32)), .val (.ref b), .val (.int (1 : Int32)), .val (.int (2 : Int32)), .val (.int (1 : Int32)), .val (.int c1)] []))
  refine Runs.st (fun t' k' => XS.iload X2_.here hx rfl (hb hby d_jdk_52_method_21_15) rfl k') ?_
  show Runs p.tables e below _ (T2_.setTop (mkF m 17 #[.val (.ref a), .val (.int (1 : Int32)), .val (.ref b), .val (.int (1 : Int32)), .val (.int (2 : Int32)), .val (.int (1 : Int32)), .val (.int c1)] [(.int c1)]))
  refine Runs.st (fun t' k' => XS.sipush X2_.here hx rfl (hb hby d_jdk_52_method_21_17) k') ?_
  show Runs p.tables e below _ (T2_.setTop (mkF m 20 #[.val (.ref a), .val (.int (1 : Int32)), .val (.ref b), .val (.int (1 : Int32)), .val (.int (2 : Int32)), .val (.int (1 : Int32)), .val (.int c1)] [(.int (255 : Int32)), (.int c1)]))
  refine Runs.st (fun t' k' => XS.icmpYes X2_.here hx rfl (pc0 := 20) (pc' := 26) rfl (hb hby d_jdk_52_method_21_20) rfl (flt u1).2.2.2 (by decide) (by decide) k') ?_
  show Runs p.tables e below _ (T2_.setTop (mkF m 26 #[.val (.ref a), .val (.int (1 : Int32)), .val (.ref b), .val (.int (1 : Int32)), .val (.int (2 : Int32)), .val (.int (1 : Int32)), .val (.int c1)] []))
  refine Runs.st (fun t' k' => XS.aloadN X2_.here hx rfl (hb hby d_jdk_52_method_21_26) rfl rfl k') ?_
  show Runs p.tables e below _ (T2_.setTop (mkF m 27 #[.val (.ref a), .val (.int (1 : Int32)), .val (.ref b), .val (.int (1 : Int32)), .val (.int (2 : Int32)), .val (.int (1 : Int32)), .val (.int c1)] [(.ref b)]))
  refine Runs.st (fun t' k' => XS.iloadN X2_.here hx rfl (hb hby d_jdk_52_method_21_27) rfl k') ?_
  show Runs p.tables e below _ (T2_.setTop (mkF m 28 #[.val (.ref a), .val (.int (1 : Int32)), .val (.ref b), .val (.int (1 : Int32)), .val (.int (2 : Int32)), .val (.int (1 : Int32)), .val (.int c1)] [(.int (1 : Int32)), (.ref b)]))
  refine Runs.st (fun t' k' => XS.iload X2_.here hx rfl (hb hby d_jdk_52_method_21_28) rfl k') ?_
  show Runs p.tables e below _ (T2_.setTop (mkF m 30 #[.val (.ref a), .val (.int (1 : Int32)), .val (.ref b), .val (.int (1 : Int32)), .val (.int (2 : Int32)), .val (.int (1 : Int32)), .val (.int c1)] [(.int c1), (.int (1 : Int32)), (.ref b)]))
  refine Runs.st (fun t' k' => XS.i2b X2_.here hx rfl (hb hby d_jdk_52_method_21_30) rfl k') ?_
  show Runs p.tables e below _ (T2_.setTop (mkF m 31 #[.val (.ref a), .val (.int (1 : Int32)), .val (.ref b), .val (.int (1 : Int32)), .val (.int (2 : Int32)), .val (.int (1 : Int32)), .val (.int c1)] [(.int (c1.toInt8.toInt32)), (.int (1 : Int32)), (.ref b)]))
  obtain ⟨cl4_, Ar4_, q4_, S4_, M4_, Ha4_, G4_⟩ := V_b
  have hin4_ : ¬ ((1 : Int32) < 0 ∨ cl4_.slots.size ≤ ((1 : Int32)).toNatClampNeg) := inb_of S4_ ⟨by decide, by decide⟩
  obtain ⟨T4_, h4_, X4_, e4_, W4_, st4_⟩ := stB X2_ hx hZ e2_ Ar4_ (j := (1 : Int32)) hin4_ (g := (mkF m 31 #[.val (.ref a), .val (.int (1 : Int32)), .val (.ref b), .val (.int (1 : Int32)), .val (.int (2 : Int32)), .val (.int (1 : Int32)), .val (.int c1)] [(.int (c1.toInt8.toInt32)), (.int (1 : Int32)), (.ref b)])) rfl rfl (hb hby d_jdk_52_method_21_31)
  refine Runs.st (st4_) ?_
  have V_b := Arv.set Ar4_ q4_ S4_ M4_ Ha4_ G4_ (fits_nar_byte _) W4_ 1 rfl (Nat.le_of_ble_eq_true rfl)
  replace V_a := V_a.other W4_ ne_a_b
  replace sz := Nat.le_trans sz (Keep.of_wr W4_).1
  have N4_ := Fr.snoc X4_ N2_ g_b
  replace K := K.wr W4_ (Or.inl (List.mem_of_getElem? (i := 0) rfl))
  show Runs p.tables e below _ (T4_.setTop (mkF m 32 #[.val (.ref a), .val (.int (1 : Int32)), .val (.ref b), .val (.int (1 : Int32)), .val (.int (2 : Int32)), .val (.int (1 : Int32)), .val (.int c1)] []))
  refine Runs.st (fun t' k' => XS.iinc X4_.here hx rfl (hb hby d_jdk_52_method_21_32) rfl (l' := #[.val (.ref a), .val (.int ((1 : Int32) + (1 : Int32))), .val (.ref b), .val (.int (1 : Int32)), .val (.int (2 : Int32)), .val (.int (1 : Int32)), .val (.int c1)]) rfl k') ?_
  show Runs p.tables e below _ (T4_.setTop (mkF m 35 #[.val (.ref a), .val (.int ((1 : Int32) + (1 : Int32))), .val (.ref b), .val (.int (1 : Int32)), .val (.int (2 : Int32)), .val (.int (1 : Int32)), .val (.int c1)] []))
  refine Runs.st (fun t' k' => XS.iinc X4_.here hx rfl (hb hby d_jdk_52_method_21_35) rfl (l' := #[.val (.ref a), .val (.int ((1 : Int32) + (1 : Int32))), .val (.ref b), .val (.int ((1 : Int32) + (1 : Int32))), .val (.int (2 : Int32)), .val (.int (1 : Int32)), .val (.int c1)]) rfl k') ?_
  show Runs p.tables e below _ (T4_.setTop (mkF m 38 #[.val (.ref a), .val (.int ((1 : Int32) + (1 : Int32))), .val (.ref b), .val (.int ((1 : Int32) + (1 : Int32))), .val (.int (2 : Int32)), .val (.int (1 : Int32)), .val (.int c1)] []))
  refine Runs.st (fun t' k' => XS.iinc X4_.here hx rfl (hb hby d_jdk_52_method_21_38) rfl (l' := #[.val (.ref a), .val (.int ((1 : Int32) + (1 : Int32))), .val (.ref b), .val (.int ((1 : Int32) + (1 : Int32))), .val (.int (2 : Int32)), .val (.int ((1 : Int32) + (1 : Int32))), .val (.int c1)]) rfl k') ?_
  show Runs p.tables e below _ (T4_.setTop (mkF m 41 #[.val (.ref a), .val (.int ((1 : Int32) + (1 : Int32))), .val (.ref b), .val (.int ((1 : Int32) + (1 : Int32))), .val (.int (2 : Int32)), .val (.int ((1 : Int32) + (1 : Int32))), .val (.int c1)] []))
  rw [show ((1 : Int32) + (1 : Int32)) = (2 : Int32) from rfl]
  show Runs p.tables e below _ (T4_.setTop (mkF m 41 #[.val (.ref a), .val (.int (2 : Int32)), .val (.ref b), .val (.int (2 : Int32)), .val (.int (2 : Int32)), .val (.int (2 : Int32)), .val (.int c1)] []))
  refine Runs.st (fun t' k' => XS.goto X4_.here hx rfl (pc0 := 41) (pc' := 3) rfl (hb hby d_jdk_52_method_21_41) (by decide) (by decide) k') ?_
  show Runs p.tables e below _ (T4_.setTop (mkF m 3 #[.val (.ref a), .val (.int (2 : Int32)), .val (.ref b), .val (.int (2 : Int32)), .val (.int (2 : Int32)), .val (.int (2 : Int32)), .val (.int c1)] []))
  refine Runs.st (fun t' k' => XS.iload X4_.here hx rfl (hb hby d_jdk_52_method_21_3) rfl k') ?_
  show Runs p.tables e below _ (T4_.setTop (mkF m 5 #[.val (.ref a), .val (.int (2 : Int32)), .val (.ref b), .val (.int (2 : Int32)), .val (.int (2 : Int32)), .val (.int (2 : Int32)), .val (.int c1)] [(.int (2 : Int32))]))
  refine Runs.st (fun t' k' => XS.iload X4_.here hx rfl (hb hby d_jdk_52_method_21_5) rfl k') ?_
  show Runs p.tables e below _ (T4_.setTop (mkF m 7 #[.val (.ref a), .val (.int (2 : Int32)), .val (.ref b), .val (.int (2 : Int32)), .val (.int (2 : Int32)), .val (.int (2 : Int32)), .val (.int c1)] [(.int (2 : Int32)), (.int (2 : Int32))]))
  refine Runs.st (fun t' k' => XS.icmpYes X4_.here hx rfl (pc0 := 7) (pc' := 44) rfl (hb hby d_jdk_52_method_21_7) rfl (flt (by decide)).2.1 (by decide) (by decide) k') ?_
  show Runs p.tables e below _ (T4_.setTop (mkF m 44 #[.val (.ref a), .val (.int (2 : Int32)), .val (.ref b), .val (.int (2 : Int32)), .val (.int (2 : Int32)), .val (.int (2 : Int32)), .val (.int c1)] []))
  refine Runs.st (fun t' k' => XS.iload X4_.here hx rfl (hb hby d_jdk_52_method_21_44) rfl k') ?_
  show Runs p.tables e below _ (T4_.setTop (mkF m 46 #[.val (.ref a), .val (.int (2 : Int32)), .val (.ref b), .val (.int (2 : Int32)), .val (.int (2 : Int32)), .val (.int (2 : Int32)), .val (.int c1)] [(.int (2 : Int32))]))
  refine Runs.ret X4_ hlk (v := (some (.int (2 : Int32)))) (fun h => by rw [hret] at h; cases h) (by decide) (by decide) ?_ (fun fs hr => retI X4_ hx hret (hb hby d_jdk_52_method_21_46) hr)
  try rw [e4_]
  exact ⟨rfl, N4_, K, V_b⟩
def Q_rmCB2 (Z : State) (a : Addr) (c0 c1 : Int32) (k1 : ClassId) (h0 : Heap) (n0 : Nat) : Option Value → Heap → List Loc → Prop := (fun v h L => ∃ b k2, v = some (.ref b) ∧ Fr n0 L ∧ Keep h0 h [] ∧ h0.size ≤ b ∧ Arv Z h b k2 .byte (2 : Int32) [(.int (nar .byte (c0.toInt8.toInt32))), (.int (nar .byte (c1.toInt8.toInt32)))] (.int (0 : Int32)))
theorem ef_jdk_52_method_16_RII (m : MethodId) (x0 : Addr) (x1 : Int32) (x2 : Int32)  : entryFrame m #[(.ref x0), (.int x1), (.int x2)] 6 = mkF m 0 #[.val (.ref x0), .val (.int x1), .val (.int x2), .unset, .unset, .unset] [] := by first | (simp [entryFrame, mkF, argsToLocals, Value.category]; done) | rfl
theorem d_jdk_52_method_16_0 : decode jdk_52_method_16_code 0 = .ok (.iload_n 2, 1) := by decide +kernel
theorem d_jdk_52_method_16_1 : decode jdk_52_method_16_code 1 = .ok (.newarray .byte, 2) := by decide +kernel
theorem d_jdk_52_method_16_3 : decode jdk_52_method_16_code 3 = .ok (.astore_n 3, 1) := by decide +kernel
theorem d_jdk_52_method_16_4 : decode jdk_52_method_16_code 4 = .ok (.aload_n 0, 1) := by decide +kernel
theorem d_jdk_52_method_16_5 : decode jdk_52_method_16_code 5 = .ok (.iload_n 1, 1) := by decide +kernel
theorem d_jdk_52_method_16_6 : decode jdk_52_method_16_code 6 = .ok (.aload_n 3, 1) := by decide +kernel
theorem d_jdk_52_method_16_7 : decode jdk_52_method_16_code 7 = .ok (.iconst 0, 1) := by decide +kernel
theorem d_jdk_52_method_16_8 : decode jdk_52_method_16_code 8 = .ok (.iload_n 2, 1) := by decide +kernel
theorem pd__28_5bCI_5bBII_29I : parseMethodDescriptor "([CI[BII)I" = some ⟨[(.array .char), .int, (.array .byte), .int, .int], some .int⟩ := by decide +kernel
theorem d_jdk_52_method_16_9 : decode jdk_52_method_16_code 9 = .ok (.invokestatic 115, 3) := by decide +kernel
theorem d_jdk_52_method_16_12 : decode jdk_52_method_16_code 12 = .ok (.istore 4, 2) := by decide +kernel
theorem d_jdk_52_method_16_14 : decode jdk_52_method_16_code 14 = .ok (.iload 4, 2) := by decide +kernel
theorem d_jdk_52_method_16_16 : decode jdk_52_method_16_code 16 = .ok (.iload_n 2, 1) := by decide +kernel
theorem d_jdk_52_method_16_17 : decode jdk_52_method_16_code 17 = .ok (.if_icmp .eq 40, 3) := by decide +kernel
theorem d_jdk_52_method_16_57 : decode jdk_52_method_16_code 57 = .ok (.aload_n 3, 1) := by decide +kernel
theorem d_jdk_52_method_16_58 : decode jdk_52_method_16_code 58 = .ok (.areturn, 1) := by decide +kernel
set_option maxRecDepth 65536 in
set_option maxHeartbeats 40000000 in
theorem rmCB2 (l : Launch) (Z : State) (a0 : Array Value) (hw : ∀ d ∈ tables_1, d.before a0 Z = true) (ws : List Jvm.Cond) (a : Addr) (c0 c1 : Int32) (k1 : ClassId) (h0 : Heap) (n0 : Nat) (Z0 : n0 ≤ h0.size) (V_a : Arv Z h0 a k1 .char (2 : Int32) [(.int c0), (.int c1)] (.int (0 : Int32))) (u0 : ¬ ((255 : Int32) < c0)) (u1 : ¬ ((255 : Int32) < c1)) :
    MetFree l (⟨"java/lang/StringUTF16", "compress", "([CII)[B"⟩ : MethodName) (head1 (Jvm.Cond.code (⟨"java/lang/StringUTF16", "compress", "([CII)[B"⟩ : MethodName) jdk_52_method_16_code 6 (some (.array .byte)) :: ws) ({ frames := 1, cells := 1, slots := 2, locals := 18 } : Room)) (fun ar_ U => ar_ = #[(.ref a), (.int (0 : Int32)), (.int (2 : Int32))] ∧ Z.Warmed39 U.vm ∧ U.heap = h0) (fun _ _ _ _ _ => True) (fun _ U o U' => Phi U (Q_rmCB2 Z a c0 c1 k1 h0 n0) ({ frames := 1, cells := 1, slots := 2, locals := 18 } : Room).cells ({ frames := 1, cells := 1, slots := 2, locals := 18 } : Room).slots o U') := by
  refine MetFree.of_bodySF (plainFor_of_name pn_java_lang_StringUTF16) hisR ?_
  intro p e s m args below meth c s₁ Bd hml0 hP hK
  obtain ⟨rfl, hZ, hh⟩ := hP
  have hx := Bd.exec
  have hby := Bd.bytes
  have hlk := Bd.notSynchronized
  have hml : c.maxLocals = 6 := hml0
  have hown : s.vm.findClass "java/lang/StringUTF16" = some m.cls := findClass_of_methodNamed Bd.named
  have hown0 := hown
  have hnm := (name_of_methodNamed Bd.named Bd.method).1
  have hret := Bd.returns
  have X0 : Stand p l e ({ frames := 1, cells := 1, slots := 2, locals := 18 } : Room) s m #[(.ref a), (.int (0 : Int32)), (.int (2 : Int32))] below meth c s₁ [] 0 0 := Stand.of_body Bd
  have e0 : s₁.heap = h0 := by rw [← hh, Bd.state]; rfl
  have N0 := Fr.nil n0
  have sz := Z0
  have K := Keep.refl h0 []
  show Runs p.tables e below (Phi s (Q_rmCB2 Z a c0 c1 k1 h0 n0) ({ frames := 1, cells := 1, slots := 2, locals := 18 } : Room).cells ({ frames := 1, cells := 1, slots := 2, locals := 18 } : Room).slots) _
  refine Runs.st (fun t' k' => castTop (ef_jdk_52_method_16_RII m a (0 : Int32) (2 : Int32) ) k') ?_
  show Runs p.tables e below _ (s₁.setTop (mkF m 0 #[.val (.ref a), .val (.int (0 : Int32)), .val (.int (2 : Int32)), .unset, .unset, .unset] []))
  refine Runs.st (fun t' k' => XS.iloadN X0.here hx rfl (hb hby d_jdk_52_method_16_0) rfl k') ?_
  show Runs p.tables e below _ (s₁.setTop (mkF m 1 #[.val (.ref a), .val (.int (0 : Int32)), .val (.int (2 : Int32)), .unset, .unset, .unset] [(.int (2 : Int32))]))
  obtain ⟨T1_, h1_, k1_, X1_, e1_, E1_, A1_, st1_⟩ := newP X0 hx hZ (hw _ (List.mem_of_getElem? (i := 19) rfl)) e0 (g := (mkF m 1 #[.val (.ref a), .val (.int (0 : Int32)), .val (.int (2 : Int32)), .unset, .unset, .unset] [(.int (2 : Int32))])) rfl (hb hby d_jdk_52_method_16_1) rfl (by decide) (cap := 2) (by decide) (by decide) (by decide) (by decide)
  refine Runs.st (st1_) ?_
  obtain ⟨b, g1_⟩ : ∃ z, z = h0.size := ⟨_, rfl⟩
  rw [← g1_] at A1_
  try rw [← g1_]
  have g_b : n0 ≤ b := Nat.le_trans sz (Nat.le_of_eq g1_.symm)
  have sz_b : h0.size ≤ b := Nat.le_trans K.1 (Nat.le_of_eq g1_.symm)
  have ne_a_b : a ≠ b := Nat.ne_of_lt (Nat.lt_of_lt_of_le V_a.lt (Nat.le_of_eq g1_.symm))
  replace V_a := V_a.ext E1_
  replace sz := Nat.le_trans sz E1_.1
  replace K := K.ext E1_
  have V_b : Arv Z h1_ b k1_ .byte (2 : Int32) [(.int (0 : Int32)), (.int (0 : Int32))] (.int (0 : Int32)) := (Arv.new A1_ (by decide)).pad (pad_rep [] (.int (0 : Int32)) 2)
  show Runs p.tables e below _ (T1_.setTop (mkF m 3 #[.val (.ref a), .val (.int (0 : Int32)), .val (.int (2 : Int32)), .unset, .unset, .unset] [(.ref b)]))
  refine Runs.st (fun t' k' => XS.astoreN X1_.here hx rfl (hb hby d_jdk_52_method_16_3) rfl rfl (l' := #[.val (.ref a), .val (.int (0 : Int32)), .val (.int (2 : Int32)), .val (.ref b), .unset, .unset]) rfl k') ?_
  show Runs p.tables e below _ (T1_.setTop (mkF m 4 #[.val (.ref a), .val (.int (0 : Int32)), .val (.int (2 : Int32)), .val (.ref b), .unset, .unset] []))
  refine Runs.st (fun t' k' => XS.aloadN X1_.here hx rfl (hb hby d_jdk_52_method_16_4) rfl rfl k') ?_
  show Runs p.tables e below _ (T1_.setTop (mkF m 5 #[.val (.ref a), .val (.int (0 : Int32)), .val (.int (2 : Int32)), .val (.ref b), .unset, .unset] [(.ref a)]))
  refine Runs.st (fun t' k' => XS.iloadN X1_.here hx rfl (hb hby d_jdk_52_method_16_5) rfl k') ?_
  show Runs p.tables e below _ (T1_.setTop (mkF m 6 #[.val (.ref a), .val (.int (0 : Int32)), .val (.int (2 : Int32)), .val (.ref b), .unset, .unset] [(.int (0 : Int32)), (.ref a)]))
  refine Runs.st (fun t' k' => XS.aloadN X1_.here hx rfl (hb hby d_jdk_52_method_16_6) rfl rfl k') ?_
  show Runs p.tables e below _ (T1_.setTop (mkF m 7 #[.val (.ref a), .val (.int (0 : Int32)), .val (.int (2 : Int32)), .val (.ref b), .unset, .unset] [(.ref b), (.int (0 : Int32)), (.ref a)]))
  refine Runs.st (fun t' k' => XS.iconst X1_.here hx rfl (hb hby d_jdk_52_method_16_7) k') ?_
  show Runs p.tables e below _ (T1_.setTop (mkF m 8 #[.val (.ref a), .val (.int (0 : Int32)), .val (.int (2 : Int32)), .val (.ref b), .unset, .unset] [(.int (0 : Int32)), (.ref b), (.int (0 : Int32)), (.ref a)]))
  refine Runs.st (fun t' k' => XS.iloadN X1_.here hx rfl (hb hby d_jdk_52_method_16_8) rfl k') ?_
  show Runs p.tables e below _ (T1_.setTop (mkF m 9 #[.val (.ref a), .val (.int (0 : Int32)), .val (.int (2 : Int32)), .val (.ref b), .unset, .unset] [(.int (2 : Int32)), (.int (0 : Int32)), (.ref b), (.int (0 : Int32)), (.ref a)]))
  obtain ⟨_, _, ⟨T2_, L2_, k2_, n2_⟩, -, X2_, ⟨Lc2_, hQ2_, l2_, y2_, z2_⟩, st2_⟩ := Jvm.LawKit.callS X1_ hx (y := (⟨"java/lang/StringUTF16", "compress", "([CI[BII)I"⟩ : MethodName)) hown (mvT hZ (hw _ (List.mem_of_getElem? (i := 20) rfl))) (mvT hZ (hw _ (List.mem_of_getElem? (i := 21) rfl))) (mvT hZ (hw _ (List.mem_of_getElem? (i := 17) rfl))) (mvT hZ (hw _ (List.mem_of_getElem? (i := 22) rfl))) (by decide) (backOf (W := 0) (rmCA2 l Z a0 hw [] a b c0 c1 k1 _ h1_ n0 sz V_a V_b ne_a_b g_b u0 u1) hZ (hw _ (List.mem_of_getElem? (i := 22) rfl)) (hw _ (List.mem_of_getElem? (i := 17) rfl)) (by decide) (by decide)) (g := (mkF m 9 #[.val (.ref a), .val (.int (0 : Int32)), .val (.int (2 : Int32)), .val (.ref b), .unset, .unset] [(.int (2 : Int32)), (.int (0 : Int32)), (.ref b), (.int (0 : Int32)), (.ref a)])) rfl (by rw [hml]; rfl) (argsL := [(.ref a), (.int (0 : Int32)), (.ref b), (.int (0 : Int32)), (.int (2 : Int32))]) (rest := []) (lenOf pd__28_5bCI_5bBII_29I rfl) rfl (by show 2 * 0 + _ ≤ _; exact Nat.le_of_eq rfl) (hb hby d_jdk_52_method_16_9) (fun _ _ => ⟨rfl, e1_, (by decide : 1 + 0 ≤ _), (by decide : 2 + 0 ≤ _)⟩)
  dsimp only [Pt.U, Pt.locs, Pt.cells, Pt.slots] at X2_ l2_ y2_ z2_ st2_ hQ2_
  subst l2_ y2_ z2_
  obtain ⟨rfl, N2_q, K2_, V_b⟩ := hQ2_
  have N2_ := Fr.app N0 N2_q
  refine Runs.st (st2_) ?_
  replace X2_ := wider X2_ (c' := 1) (s' := 2) (by decide) (by decide)
  replace V_a := V_a.keep K2_ (ninS ne_a_b nin0)
  replace sz := Nat.le_trans sz K2_.1
  replace K := K.trans K2_ (allS (Or.inr sz_b) all0)
  show Runs p.tables e below _ (T2_.setTop (mkF m 12 #[.val (.ref a), .val (.int (0 : Int32)), .val (.int (2 : Int32)), .val (.ref b), .unset, .unset] [(.int (2 : Int32))]))
  refine Runs.st (fun t' k' => XS.istore X2_.here hx rfl (hb hby d_jdk_52_method_16_12) rfl (l' := #[.val (.ref a), .val (.int (0 : Int32)), .val (.int (2 : Int32)), .val (.ref b), .val (.int (2 : Int32)), .unset]) rfl k') ?_
  show Runs p.tables e below _ (T2_.setTop (mkF m 14 #[.val (.ref a), .val (.int (0 : Int32)), .val (.int (2 : Int32)), .val (.ref b), .val (.int (2 : Int32)), .unset] []))
  refine Runs.st (fun t' k' => XS.iload X2_.here hx rfl (hb hby d_jdk_52_method_16_14) rfl k') ?_
  show Runs p.tables e below _ (T2_.setTop (mkF m 16 #[.val (.ref a), .val (.int (0 : Int32)), .val (.int (2 : Int32)), .val (.ref b), .val (.int (2 : Int32)), .unset] [(.int (2 : Int32))]))
  refine Runs.st (fun t' k' => XS.iloadN X2_.here hx rfl (hb hby d_jdk_52_method_16_16) rfl k') ?_
  show Runs p.tables e below _ (T2_.setTop (mkF m 17 #[.val (.ref a), .val (.int (0 : Int32)), .val (.int (2 : Int32)), .val (.ref b), .val (.int (2 : Int32)), .unset] [(.int (2 : Int32)), (.int (2 : Int32))]))
  refine Runs.st (fun t' k' => XS.icmpYes X2_.here hx rfl (pc0 := 17) (pc' := 57) rfl (hb hby d_jdk_52_method_16_17) rfl (teq rfl).1 (by decide) (by decide) k') ?_
  show Runs p.tables e below _ (T2_.setTop (mkF m 57 #[.val (.ref a), .val (.int (0 : Int32)), .val (.int (2 : Int32)), .val (.ref b), .val (.int (2 : Int32)), .unset] []))
  refine Runs.st (fun t' k' => XS.aloadN X2_.here hx rfl (hb hby d_jdk_52_method_16_57) rfl rfl k') ?_
  show Runs p.tables e below _ (T2_.setTop (mkF m 58 #[.val (.ref a), .val (.int (0 : Int32)), .val (.int (2 : Int32)), .val (.ref b), .val (.int (2 : Int32)), .unset] [(.ref b)]))
  refine Runs.ret X2_ hlk (v := (some (.ref b))) (fun h => by rw [hret] at h; cases h) (by decide) (by decide) ?_ (fun fs hr => retOut X2_ hx hret rfl (Or.inr (Or.inr (Or.inr (Or.inr ⟨rfl, rfl, rfl⟩)))) (hb hby d_jdk_52_method_16_58) hr)
  exact ⟨b, _, rfl, N2_, K, sz_b, V_b⟩
def Q_rmCd2 (Z : State) (b : Addr) (k2 : ClassId) (vs : List Value) (h0 : Heap) (n0 : Nat) : Option Value → Heap → List Loc → Prop := (fun v h L => v = some (.int (0 : Int32)) ∧ Fr n0 L ∧ h = h0)
theorem ef_jdk_52_method_15_RI (m : MethodId) (x0 : Addr) (x1 : Int32)  : entryFrame m #[(.ref x0), (.int x1)] 2 = mkF m 0 #[.val (.ref x0), .val (.int x1)] [] := by first | (simp [entryFrame, mkF, argsToLocals, Value.category]; done) | rfl
theorem d_jdk_52_method_15_0 : decode jdk_52_method_15_code 0 = .ok (.iload_n 1, 1) := by decide +kernel
theorem d_jdk_52_method_15_1 : decode jdk_52_method_15_code 1 = .ok (.aload_n 0, 1) := by decide +kernel
theorem d_jdk_52_method_15_2 : decode jdk_52_method_15_code 2 = .ok (.arraylength, 1) := by decide +kernel
theorem d_jdk_52_method_15_3 : decode jdk_52_method_15_code 3 = .ok (.isub, 1) := by decide +kernel
theorem d_jdk_52_method_15_4 : decode jdk_52_method_15_code 4 = .ok (.bipush 31, 2) := by decide +kernel
theorem d_jdk_52_method_15_6 : decode jdk_52_method_15_code 6 = .ok (.iushr, 1) := by decide +kernel
theorem d_jdk_52_method_15_7 : decode jdk_52_method_15_code 7 = .ok (.i2b, 1) := by decide +kernel
theorem d_jdk_52_method_15_8 : decode jdk_52_method_15_code 8 = .ok (.ireturn, 1) := by decide +kernel
set_option maxRecDepth 65536 in
set_option maxHeartbeats 40000000 in
theorem rmCd2 (l : Launch) (Z : State) (a0 : Array Value) (hw : ∀ d ∈ tables_1, d.before a0 Z = true) (ws : List Jvm.Cond) (b : Addr) (k2 : ClassId) (vs : List Value) (h0 : Heap) (n0 : Nat) (Z0 : n0 ≤ h0.size) (V_b : Arv Z h0 b k2 .byte (2 : Int32) vs (.int (0 : Int32))) :
    MetFree l (⟨"java/lang/StringUTF16", "coderFromArrayLen", "([BI)B"⟩ : MethodName) (head1 (Jvm.Cond.code (⟨"java/lang/StringUTF16", "coderFromArrayLen", "([BI)B"⟩ : MethodName) jdk_52_method_15_code 2 (some .byte) :: ws) ({ frames := 0, cells := 0, slots := 0, locals := 0 } : Room)) (fun ar_ U => ar_ = #[(.ref b), (.int (2 : Int32))] ∧ Z.Warmed39 U.vm ∧ U.heap = h0) (fun _ _ _ _ _ => True) (fun _ U o U' => Phi U (Q_rmCd2 Z b k2 vs h0 n0) ({ frames := 0, cells := 0, slots := 0, locals := 0 } : Room).cells ({ frames := 0, cells := 0, slots := 0, locals := 0 } : Room).slots o U') := by
  refine MetFree.of_bodySF (plainFor_of_name pn_java_lang_StringUTF16) hisR ?_
  intro p e s m args below meth c s₁ Bd hml0 hP hK
  obtain ⟨rfl, hZ, hh⟩ := hP
  have hx := Bd.exec
  have hby := Bd.bytes
  have hlk := Bd.notSynchronized
  have hml : c.maxLocals = 2 := hml0
  have hown : s.vm.findClass "java/lang/StringUTF16" = some m.cls := findClass_of_methodNamed Bd.named
  have hown0 := hown
  have hnm := (name_of_methodNamed Bd.named Bd.method).1
  have hret := Bd.returns
  have X0 : Stand p l e ({ frames := 0, cells := 0, slots := 0, locals := 0 } : Room) s m #[(.ref b), (.int (2 : Int32))] below meth c s₁ [] 0 0 := Stand.of_body Bd
  have e0 : s₁.heap = h0 := by rw [← hh, Bd.state]; rfl
  have N0 := Fr.nil n0
  have sz := Z0
  have K := Keep.refl h0 []
  show Runs p.tables e below (Phi s (Q_rmCd2 Z b k2 vs h0 n0) ({ frames := 0, cells := 0, slots := 0, locals := 0 } : Room).cells ({ frames := 0, cells := 0, slots := 0, locals := 0 } : Room).slots) _
  refine Runs.st (fun t' k' => castTop (ef_jdk_52_method_15_RI m b (2 : Int32) ) k') ?_
  show Runs p.tables e below _ (s₁.setTop (mkF m 0 #[.val (.ref b), .val (.int (2 : Int32))] []))
  refine Runs.st (fun t' k' => XS.iloadN X0.here hx rfl (hb hby d_jdk_52_method_15_0) rfl k') ?_
  show Runs p.tables e below _ (s₁.setTop (mkF m 1 #[.val (.ref b), .val (.int (2 : Int32))] [(.int (2 : Int32))]))
  refine Runs.st (fun t' k' => XS.aloadN X0.here hx rfl (hb hby d_jdk_52_method_15_1) rfl rfl k') ?_
  show Runs p.tables e below _ (s₁.setTop (mkF m 2 #[.val (.ref b), .val (.int (2 : Int32))] [(.ref b), (.int (2 : Int32))]))
  obtain ⟨cl1_, Ar1_, -, S1_, M1_, -, -⟩ := id V_b
  refine Runs.st (X0.arraylength hx (by rw [e0]; exact Ar1_.1) (State.isArrayOf_alike hZ.alike Ar1_.2.1) (g := (mkF m 2 #[.val (.ref b), .val (.int (2 : Int32))] [(.ref b), (.int (2 : Int32))])) rfl rfl (hb hby d_jdk_52_method_15_2)) ?_
  rw [len_of S1_ M1_]
  show Runs p.tables e below _ (s₁.setTop (mkF m 3 #[.val (.ref b), .val (.int (2 : Int32))] [(.int (2 : Int32)), (.int (2 : Int32))]))
  refine Runs.st (fun t' k' => XS.isub X0.here hx rfl (hb hby d_jdk_52_method_15_3) rfl k') ?_
  show Runs p.tables e below _ (s₁.setTop (mkF m 4 #[.val (.ref b), .val (.int (2 : Int32))] [(.int ((2 : Int32) - (2 : Int32)))]))
  refine Runs.st (fun t' k' => XS.bipush X0.here hx rfl (hb hby d_jdk_52_method_15_4) k') ?_
  show Runs p.tables e below _ (s₁.setTop (mkF m 6 #[.val (.ref b), .val (.int (2 : Int32))] [(.int (31 : Int32)), (.int ((2 : Int32) - (2 : Int32)))]))
  refine Runs.st (fun t' k' => XS.iushr X0.here hx rfl (hb hby d_jdk_52_method_15_6) rfl k') ?_
  show Runs p.tables e below _ (s₁.setTop (mkF m 7 #[.val (.ref b), .val (.int (2 : Int32))] [(.int ((((2 : Int32) - (2 : Int32)).toUInt32 >>> ((31 : Int32) &&& 31).toUInt32).toInt32))]))
  refine Runs.st (fun t' k' => XS.i2b X0.here hx rfl (hb hby d_jdk_52_method_15_7) rfl k') ?_
  show Runs p.tables e below _ (s₁.setTop (mkF m 8 #[.val (.ref b), .val (.int (2 : Int32))] [(.int (((((2 : Int32) - (2 : Int32)).toUInt32 >>> ((31 : Int32) &&& 31).toUInt32).toInt32).toInt8.toInt32))]))
  refine Runs.ret X0 hlk (v := (some (.int (nar .byte (((((2 : Int32) - (2 : Int32)).toUInt32 >>> ((31 : Int32) &&& 31).toUInt32).toInt32).toInt8.toInt32))))) (fun h => by rw [hret] at h; cases h) (by decide) (by decide) ?_ (fun fs hr => retN X0 hx (t := .byte) hret (by simp) (hb hby d_jdk_52_method_15_8) hr)
  try rw [e0]
  exact ⟨congrArg (fun z => some (Value.int z)) (by decide), N0, rfl⟩
def Q_rmID2 (Z : State) (a : Addr) (d : Addr) (c0 c1 : Int32) (k1 : ClassId) (zc : Int32) (h0 : Heap) (n0 : Nat) : Option Value → Heap → List Loc → Prop := (fun v h L => v = none ∧ Fr n0 L ∧ Keep h0 h [a] ∧ Exa Z h a "java/lang/String" ∧ Fld Z h a "java/lang/String" "coder" "B" (.int (0 : Int32)) ∧ ∃ b k2, h0.size ≤ b ∧ Fld Z h a "java/lang/String" "value" "[B" (.ref b) ∧ Arv Z h b k2 .byte (2 : Int32) [(.int (nar .byte (c0.toInt8.toInt32))), (.int (nar .byte (c1.toInt8.toInt32)))] (.int (0 : Int32)))
theorem pn_java_lang_String : plainName "java/lang/String" = true := by first | (simp [plainName, overriddenIn]; done) | decide +kernel
theorem ef_jdk_42_method_149_RRIIN (m : MethodId) (x0 : Addr) (x1 : Addr) (x2 : Int32) (x3 : Int32)  : entryFrame m #[(.ref x0), (.ref x1), (.int x2), (.int x3), .null] 6 = mkF m 0 #[.val (.ref x0), .val (.ref x1), .val (.int x2), .val (.int x3), .val .null, .unset] [] := by first | (simp [entryFrame, mkF, argsToLocals, Value.category]; done) | rfl
theorem d_jdk_42_method_149_0 : decode jdk_42_method_149_code 0 = .ok (.aload_n 0, 1) := by decide +kernel
theorem d_jdk_42_method_149_1 : decode jdk_42_method_149_code 1 = .ok (.invokespecial 1, 3) := by decide +kernel
theorem d_jdk_42_method_149_4 : decode jdk_42_method_149_code 4 = .ok (.iload_n 3, 1) := by decide +kernel
theorem d_jdk_42_method_149_5 : decode jdk_42_method_149_code 5 = .ok (.ifCond .ne 22, 3) := by decide +kernel
theorem d_jdk_42_method_149_27 : decode jdk_42_method_149_code 27 = .ok (.getstatic 38, 3) := by decide +kernel
theorem d_jdk_42_method_149_30 : decode jdk_42_method_149_code 30 = .ok (.ifCond .eq 28, 3) := by decide +kernel
theorem d_jdk_42_method_149_33 : decode jdk_42_method_149_code 33 = .ok (.aload_n 1, 1) := by decide +kernel
theorem d_jdk_42_method_149_34 : decode jdk_42_method_149_code 34 = .ok (.iload_n 2, 1) := by decide +kernel
theorem d_jdk_42_method_149_35 : decode jdk_42_method_149_code 35 = .ok (.iload_n 3, 1) := by decide +kernel
theorem pd__28_5bCII_29_5bB : parseMethodDescriptor "([CII)[B" = some ⟨[(.array .char), .int, .int], some (.array .byte)⟩ := by decide +kernel
theorem d_jdk_42_method_149_36 : decode jdk_42_method_149_code 36 = .ok (.invokestatic 177, 3) := by decide +kernel
theorem d_jdk_42_method_149_39 : decode jdk_42_method_149_code 39 = .ok (.astore 5, 2) := by decide +kernel
theorem d_jdk_42_method_149_41 : decode jdk_42_method_149_code 41 = .ok (.aload_n 0, 1) := by decide +kernel
theorem d_jdk_42_method_149_42 : decode jdk_42_method_149_code 42 = .ok (.aload 5, 2) := by decide +kernel
theorem d_jdk_42_method_149_44 : decode jdk_42_method_149_code 44 = .ok (.iload_n 3, 1) := by decide +kernel
theorem pd__28_5bBI_29B : parseMethodDescriptor "([BI)B" = some ⟨[(.array .byte), .int], some .byte⟩ := by decide +kernel
theorem d_jdk_42_method_149_45 : decode jdk_42_method_149_code 45 = .ok (.invokestatic 47, 3) := by decide +kernel
theorem d_jdk_42_method_149_48 : decode jdk_42_method_149_code 48 = .ok (.putfield 15, 3) := by decide +kernel
theorem d_jdk_42_method_149_51 : decode jdk_42_method_149_code 51 = .ok (.aload_n 0, 1) := by decide +kernel
theorem d_jdk_42_method_149_52 : decode jdk_42_method_149_code 52 = .ok (.aload 5, 2) := by decide +kernel
theorem d_jdk_42_method_149_54 : decode jdk_42_method_149_code 54 = .ok (.putfield 9, 3) := by decide +kernel
theorem d_jdk_42_method_149_57 : decode jdk_42_method_149_code 57 = .ok (.return_, 1) := by decide +kernel
set_option maxRecDepth 65536 in
set_option maxHeartbeats 40000000 in
theorem rmID2 (l : Launch) (Z : State) (a0 : Array Value) (hw : ∀ d ∈ tables_1, d.before a0 Z = true) (ws : List Jvm.Cond) (a : Addr) (d : Addr) (c0 c1 : Int32) (k1 : ClassId) (zc : Int32) (h0 : Heap) (n0 : Nat) (Z0 : n0 ≤ h0.size) (E_a : Exa Z h0 a "java/lang/String") (F_v : Fld Z h0 a "java/lang/String" "value" "[B" .null) (F_c : Fld Z h0 a "java/lang/String" "coder" "B" (.int (0 : Int32))) (g_a : n0 ≤ a) (V_d : Arv Z h0 d k1 .char (2 : Int32) [(.int c0), (.int c1)] (.int (0 : Int32))) (Sc : Sta Z h0 "java/lang/String" "COMPACT_STRINGS" "Z" (.int zc)) (hzc : ¬ zc = 0) (u0 : ¬ ((255 : Int32) < c0)) (u1 : ¬ ((255 : Int32) < c1)) :
    MetFree l (⟨"java/lang/String", "<init>", "([CIILjava/lang/Void;)V"⟩ : MethodName) (head1 (Jvm.Cond.code (⟨"java/lang/String", "<init>", "([CIILjava/lang/Void;)V"⟩ : MethodName) jdk_42_method_149_code 6 none :: ws) ({ frames := 2, cells := 1, slots := 2, locals := 35 } : Room)) (fun ar_ U => ar_ = #[(.ref a), (.ref d), (.int (0 : Int32)), (.int (2 : Int32)), .null] ∧ Z.Warmed39 U.vm ∧ U.heap = h0) (fun _ _ _ _ _ => True) (fun _ U o U' => Phi U (Q_rmID2 Z a d c0 c1 k1 zc h0 n0) ({ frames := 2, cells := 1, slots := 2, locals := 35 } : Room).cells ({ frames := 2, cells := 1, slots := 2, locals := 35 } : Room).slots o U') := by
  refine MetFree.of_bodySF (plainFor_of_name pn_java_lang_String) hisR ?_
  intro p e s m args below meth c s₁ Bd hml0 hP hK
  obtain ⟨rfl, hZ, hh⟩ := hP
  have hx := Bd.exec
  have hby := Bd.bytes
  have hlk := Bd.notSynchronized
  have hml : c.maxLocals = 6 := hml0
  have hown : s.vm.findClass "java/lang/String" = some m.cls := findClass_of_methodNamed Bd.named
  have hown0 := hown
  have hnm := (name_of_methodNamed Bd.named Bd.method).1
  have hret := Bd.returns
  have X0 : Stand p l e ({ frames := 2, cells := 1, slots := 2, locals := 35 } : Room) s m #[(.ref a), (.ref d), (.int (0 : Int32)), (.int (2 : Int32)), .null] below meth c s₁ [] 0 0 := Stand.of_body Bd
  have e0 : s₁.heap = h0 := by rw [← hh, Bd.state]; rfl
  have N0 := Fr.nil n0
  have sz := Z0
  have K := Keep.refl h0 [a]
  show Runs p.tables e below (Phi s (Q_rmID2 Z a d c0 c1 k1 zc h0 n0) ({ frames := 2, cells := 1, slots := 2, locals := 35 } : Room).cells ({ frames := 2, cells := 1, slots := 2, locals := 35 } : Room).slots) _
  refine Runs.st (fun t' k' => castTop (ef_jdk_42_method_149_RRIIN m a d (0 : Int32) (2 : Int32) ) k') ?_
  show Runs p.tables e below _ (s₁.setTop (mkF m 0 #[.val (.ref a), .val (.ref d), .val (.int (0 : Int32)), .val (.int (2 : Int32)), .val .null, .unset] []))
  refine Runs.st (fun t' k' => XS.aloadN X0.here hx rfl (hb hby d_jdk_42_method_149_0) rfl rfl k') ?_
  show Runs p.tables e below _ (s₁.setTop (mkF m 1 #[.val (.ref a), .val (.ref d), .val (.int (0 : Int32)), .val (.int (2 : Int32)), .val .null, .unset] [(.ref a)]))
  obtain ⟨T1_, X1_, e1_, st1_⟩ := initO X0 hx hZ hown (hw _ (List.mem_of_getElem? (i := 11) rfl)) (hw _ (List.mem_of_getElem? (i := 12) rfl)) (hw _ (List.mem_of_getElem? (i := 13) rfl)) e0 (g := (mkF m 1 #[.val (.ref a), .val (.ref d), .val (.int (0 : Int32)), .val (.int (2 : Int32)), .val .null, .unset] [(.ref a)])) rfl (by rw [hml]; rfl) rfl (hb hby d_jdk_42_method_149_1) (by decide) (W := 0) (by show 2 * 0 + _ ≤ _; exact Nat.le_of_eq rfl) (by decide)
  refine Runs.st (st1_) ?_
  show Runs p.tables e below _ (T1_.setTop (mkF m 4 #[.val (.ref a), .val (.ref d), .val (.int (0 : Int32)), .val (.int (2 : Int32)), .val .null, .unset] []))
  refine Runs.st (fun t' k' => XS.iloadN X1_.here hx rfl (hb hby d_jdk_42_method_149_4) rfl k') ?_
  show Runs p.tables e below _ (T1_.setTop (mkF m 5 #[.val (.ref a), .val (.ref d), .val (.int (0 : Int32)), .val (.int (2 : Int32)), .val .null, .unset] [(.int (2 : Int32))]))
  refine Runs.st (fun t' k' => XS.ifYes X1_.here hx rfl (pc0 := 5) (pc' := 27) rfl (hb hby d_jdk_42_method_149_5) rfl ((if0 _ _).trans (feq (by decide)).2) (by decide) (by decide) k') ?_
  show Runs p.tables e below _ (T1_.setTop (mkF m 27 #[.val (.ref a), .val (.ref d), .val (.int (0 : Int32)), .val (.int (2 : Int32)), .val .null, .unset] []))
  obtain ⟨T2_, X2_, e2_, st2_⟩ := getS2 X1_ hx hZ hown (host := "") (Or.inl (hw _ (List.mem_of_getElem? (i := 14) rfl))) Via.refl e1_ Sc (g := (mkF m 27 #[.val (.ref a), .val (.ref d), .val (.int (0 : Int32)), .val (.int (2 : Int32)), .val .null, .unset] [])) rfl (hb hby d_jdk_42_method_149_27)
  refine Runs.st (st2_) ?_
  show Runs p.tables e below _ (T2_.setTop (mkF m 30 #[.val (.ref a), .val (.ref d), .val (.int (0 : Int32)), .val (.int (2 : Int32)), .val .null, .unset] [(.int zc)]))
  refine Runs.st (fun t' k' => XS.ifNo X2_.here hx rfl (hb hby d_jdk_42_method_149_30) rfl ((if0 _ _).trans (feq hzc).1) k') ?_
  show Runs p.tables e below _ (T2_.setTop (mkF m 33 #[.val (.ref a), .val (.ref d), .val (.int (0 : Int32)), .val (.int (2 : Int32)), .val .null, .unset] []))
  refine Runs.st (fun t' k' => XS.aloadN X2_.here hx rfl (hb hby d_jdk_42_method_149_33) rfl rfl k') ?_
  show Runs p.tables e below _ (T2_.setTop (mkF m 34 #[.val (.ref a), .val (.ref d), .val (.int (0 : Int32)), .val (.int (2 : Int32)), .val .null, .unset] [(.ref d)]))
  refine Runs.st (fun t' k' => XS.iloadN X2_.here hx rfl (hb hby d_jdk_42_method_149_34) rfl k') ?_
  show Runs p.tables e below _ (T2_.setTop (mkF m 35 #[.val (.ref a), .val (.ref d), .val (.int (0 : Int32)), .val (.int (2 : Int32)), .val .null, .unset] [(.int (0 : Int32)), (.ref d)]))
  refine Runs.st (fun t' k' => XS.iloadN X2_.here hx rfl (hb hby d_jdk_42_method_149_35) rfl k') ?_
  show Runs p.tables e below _ (T2_.setTop (mkF m 36 #[.val (.ref a), .val (.ref d), .val (.int (0 : Int32)), .val (.int (2 : Int32)), .val .null, .unset] [(.int (2 : Int32)), (.int (0 : Int32)), (.ref d)]))
  have kz3_ := K.1
  have gz3_ := sz
  have lt3__a := E_a.lt
  obtain ⟨_, _, ⟨T3_, L3_, k3_, n3_⟩, -, X3_, ⟨Lc3_, hQ3_, l3_, y3_, z3_⟩, st3_⟩ := Jvm.LawKit.callS X2_ hx (y := (⟨"java/lang/StringUTF16", "compress", "([CII)[B"⟩ : MethodName)) hown (mvT hZ (hw _ (List.mem_of_getElem? (i := 15) rfl))) (mvT hZ (hw _ (List.mem_of_getElem? (i := 16) rfl))) (mvT hZ (hw _ (List.mem_of_getElem? (i := 17) rfl))) (mvT hZ (hw _ (List.mem_of_getElem? (i := 18) rfl))) (by decide) (backOf (W := 0) (rmCB2 l Z a0 hw [] d c0 c1 k1 h0 n0 sz V_d u0 u1) hZ (hw _ (List.mem_of_getElem? (i := 18) rfl)) (hw _ (List.mem_of_getElem? (i := 17) rfl)) (by decide) (by decide)) (g := (mkF m 36 #[.val (.ref a), .val (.ref d), .val (.int (0 : Int32)), .val (.int (2 : Int32)), .val .null, .unset] [(.int (2 : Int32)), (.int (0 : Int32)), (.ref d)])) rfl (by rw [hml]; rfl) (argsL := [(.ref d), (.int (0 : Int32)), (.int (2 : Int32))]) (rest := []) (lenOf pd__28_5bCII_29_5bB rfl) rfl (by show 2 * 0 + _ ≤ _; exact Nat.le_of_eq rfl) (hb hby d_jdk_42_method_149_36) (fun _ _ => ⟨rfl, e2_, (by decide : 0 + 1 ≤ _), (by decide : 0 + 2 ≤ _)⟩)
  dsimp only [Pt.U, Pt.locs, Pt.cells, Pt.slots] at X3_ l3_ y3_ z3_ st3_ hQ3_
  subst l3_ y3_ z3_
  obtain ⟨b, k2, rfl, N3_q, K3_, szb, V_b⟩ := hQ3_
  have N3_ := Fr.app N0 N3_q
  refine Runs.st (st3_) ?_
  replace X3_ := wider X3_ (c' := 1) (s' := 2) (by decide) (by decide)
  replace E_a := E_a.keep K3_
  replace F_v := F_v.keep K3_ nin0
  replace F_c := F_c.keep K3_ nin0
  replace sz := Nat.le_trans sz K3_.1
  replace K := K.trans K3_ all0
  have sz_b : h0.size ≤ b := Nat.le_trans kz3_ szb
  have g_b : n0 ≤ b := Nat.le_trans gz3_ szb
  have ne_a_b : a ≠ b := Nat.ne_of_lt (Nat.lt_of_lt_of_le lt3__a szb)
  show Runs p.tables e below _ (T3_.setTop (mkF m 39 #[.val (.ref a), .val (.ref d), .val (.int (0 : Int32)), .val (.int (2 : Int32)), .val .null, .unset] [(.ref b)]))
  refine Runs.st (fun t' k' => XS.astore X3_.here hx rfl (hb hby d_jdk_42_method_149_39) rfl rfl (l' := #[.val (.ref a), .val (.ref d), .val (.int (0 : Int32)), .val (.int (2 : Int32)), .val .null, .val (.ref b)]) rfl k') ?_
  show Runs p.tables e below _ (T3_.setTop (mkF m 41 #[.val (.ref a), .val (.ref d), .val (.int (0 : Int32)), .val (.int (2 : Int32)), .val .null, .val (.ref b)] []))
  refine Runs.st (fun t' k' => XS.aloadN X3_.here hx rfl (hb hby d_jdk_42_method_149_41) rfl rfl k') ?_
  show Runs p.tables e below _ (T3_.setTop (mkF m 42 #[.val (.ref a), .val (.ref d), .val (.int (0 : Int32)), .val (.int (2 : Int32)), .val .null, .val (.ref b)] [(.ref a)]))
  refine Runs.st (fun t' k' => XS.aload X3_.here hx rfl (hb hby d_jdk_42_method_149_42) rfl rfl k') ?_
  show Runs p.tables e below _ (T3_.setTop (mkF m 44 #[.val (.ref a), .val (.ref d), .val (.int (0 : Int32)), .val (.int (2 : Int32)), .val .null, .val (.ref b)] [(.ref b), (.ref a)]))
  refine Runs.st (fun t' k' => XS.iloadN X3_.here hx rfl (hb hby d_jdk_42_method_149_44) rfl k') ?_
  show Runs p.tables e below _ (T3_.setTop (mkF m 45 #[.val (.ref a), .val (.ref d), .val (.int (0 : Int32)), .val (.int (2 : Int32)), .val .null, .val (.ref b)] [(.int (2 : Int32)), (.ref b), (.ref a)]))
  obtain ⟨_, _, ⟨T4_, L4_, k4_, n4_⟩, -, X4_, ⟨Lc4_, hQ4_, l4_, y4_, z4_⟩, st4_⟩ := Jvm.LawKit.callS X3_ hx (y := (⟨"java/lang/StringUTF16", "coderFromArrayLen", "([BI)B"⟩ : MethodName)) hown (mvT hZ (hw _ (List.mem_of_getElem? (i := 23) rfl))) (mvT hZ (hw _ (List.mem_of_getElem? (i := 24) rfl))) (mvT hZ (hw _ (List.mem_of_getElem? (i := 17) rfl))) (mvT hZ (hw _ (List.mem_of_getElem? (i := 25) rfl))) (by decide) (backOf (W := 1) (rmCd2 l Z a0 hw [] b k2 _ T3_.heap n0 sz V_b) hZ (hw _ (List.mem_of_getElem? (i := 25) rfl)) (hw _ (List.mem_of_getElem? (i := 17) rfl)) (by decide) (by decide)) (g := (mkF m 45 #[.val (.ref a), .val (.ref d), .val (.int (0 : Int32)), .val (.int (2 : Int32)), .val .null, .val (.ref b)] [(.int (2 : Int32)), (.ref b), (.ref a)])) rfl (by rw [hml]; rfl) (argsL := [(.ref b), (.int (2 : Int32))]) (rest := [(.ref a)]) (lenOf pd__28_5bBI_29B rfl) rfl (by show 2 * 0 + _ ≤ _; exact Nat.le_of_eq rfl) (hb hby d_jdk_42_method_149_45) (fun _ _ => ⟨rfl, rfl, (by decide : 1 + 0 ≤ _), (by decide : 2 + 0 ≤ _)⟩)
  dsimp only [Pt.U, Pt.locs, Pt.cells, Pt.slots] at X4_ l4_ y4_ z4_ st4_ hQ4_
  subst l4_ y4_ z4_
  obtain ⟨rfl, N4_q, e4_⟩ := hQ4_
  have N4_ := Fr.app N3_ N4_q
  refine Runs.st (st4_) ?_
  replace X4_ := wider X4_ (c' := 1) (s' := 2) (by decide) (by decide)
  show Runs p.tables e below _ (T4_.setTop (mkF m 48 #[.val (.ref a), .val (.ref d), .val (.int (0 : Int32)), .val (.int (2 : Int32)), .val .null, .val (.ref b)] [(.int (0 : Int32)), (.ref a)]))
  obtain ⟨T5_, h5_, X5_, e5_, W5_, st5_⟩ := putFN X4_ hx hZ hown (hw _ (List.mem_of_getElem? (i := 26) rfl)) Via.refl e4_ F_c E_a (Or.inr ⟨(hw _ (List.mem_of_getElem? (i := 27) rfl)), rfl, hnm⟩) (hw _ (List.mem_of_getElem? (i := 2) rfl)) (ty := .byte) (v' := .int (0 : Int32)) (by decide) rfl rfl (g := (mkF m 48 #[.val (.ref a), .val (.ref d), .val (.int (0 : Int32)), .val (.int (2 : Int32)), .val .null, .val (.ref b)] [(.int (0 : Int32)), (.ref a)])) rfl rfl (hb hby d_jdk_42_method_149_48)
  refine Runs.st (st5_) ?_
  replace F_c := F_c.same W5_
  replace E_a := Jvm.RoadKit.Exa.wr W5_ E_a
  replace F_v := F_v.other W5_ (Or.inr (slot_ne (Or.inr (hw _ (List.mem_of_getElem? (i := 29) rfl))) (Or.inr (hw _ (List.mem_of_getElem? (i := 27) rfl))) (by decide) (t := (.array .byte)) (t' := .byte) (by decide) (by decide)))
  replace V_b := V_b.other W5_ (Ne.symm ne_a_b)
  replace sz := Nat.le_trans sz (Keep.of_wr W5_).1
  have N5_ := Fr.snoc X5_ N4_ g_a
  replace K := K.wr W5_ (Or.inl (List.mem_of_getElem? (i := 0) rfl))
  show Runs p.tables e below _ (T5_.setTop (mkF m 51 #[.val (.ref a), .val (.ref d), .val (.int (0 : Int32)), .val (.int (2 : Int32)), .val .null, .val (.ref b)] []))
  refine Runs.st (fun t' k' => XS.aloadN X5_.here hx rfl (hb hby d_jdk_42_method_149_51) rfl rfl k') ?_
  show Runs p.tables e below _ (T5_.setTop (mkF m 52 #[.val (.ref a), .val (.ref d), .val (.int (0 : Int32)), .val (.int (2 : Int32)), .val .null, .val (.ref b)] [(.ref a)]))
  refine Runs.st (fun t' k' => XS.aload X5_.here hx rfl (hb hby d_jdk_42_method_149_52) rfl rfl k') ?_
  show Runs p.tables e below _ (T5_.setTop (mkF m 54 #[.val (.ref a), .val (.ref d), .val (.int (0 : Int32)), .val (.int (2 : Int32)), .val .null, .val (.ref b)] [(.ref b), (.ref a)]))
  obtain ⟨T6_, h6_, X6_, e6_, W6_, st6_⟩ := putF X5_ hx hZ hown (host := "") (Or.inl (hw _ (List.mem_of_getElem? (i := 28) rfl))) Via.refl e5_ F_v E_a (Or.inr ⟨(hw _ (List.mem_of_getElem? (i := 29) rfl)), rfl, hnm⟩) (hw _ (List.mem_of_getElem? (i := 2) rfl)) (ty := (.array .byte)) (by decide) rfl rfl (g := (mkF m 54 #[.val (.ref a), .val (.ref d), .val (.int (0 : Int32)), .val (.int (2 : Int32)), .val .null, .val (.ref b)] [(.ref b), (.ref a)])) rfl rfl (hb hby d_jdk_42_method_149_54)
  refine Runs.st (st6_) ?_
  replace F_v := F_v.same W6_
  replace E_a := Jvm.RoadKit.Exa.wr W6_ E_a
  replace V_b := V_b.other W6_ (Ne.symm ne_a_b)
  replace F_c := F_c.other W6_ (Or.inr (slot_ne (Or.inr (hw _ (List.mem_of_getElem? (i := 27) rfl))) (Or.inr (hw _ (List.mem_of_getElem? (i := 29) rfl))) (by decide) (t := .byte) (t' := (.array .byte)) (by decide) (by decide)))
  replace sz := Nat.le_trans sz (Keep.of_wr W6_).1
  have N6_ := Fr.snoc X6_ N5_ g_a
  replace K := K.wr W6_ (Or.inl (List.mem_of_getElem? (i := 0) rfl))
  show Runs p.tables e below _ (T6_.setTop (mkF m 57 #[.val (.ref a), .val (.ref d), .val (.int (0 : Int32)), .val (.int (2 : Int32)), .val .null, .val (.ref b)] []))
  refine Runs.ret X6_ hlk (v := none) (fun _ => rfl) (by decide) (by decide) ?_ (fun fs hr => X6_.returnOut hx hret (hb hby d_jdk_42_method_149_57) hr)
  try rw [e6_]
  exact ⟨rfl, N6_, K, E_a, F_c, b, k2, sz_b, F_v, V_b⟩
def Q_rmIC2 (Z : State) (a : Addr) (d : Addr) (c0 c1 : Int32) (k1 : ClassId) (zc : Int32) (h0 : Heap) (n0 : Nat) : Option Value → Heap → List Loc → Prop := (fun v h L => v = none ∧ Fr n0 L ∧ Keep h0 h [a] ∧ Exa Z h a "java/lang/String" ∧ Fld Z h a "java/lang/String" "coder" "B" (.int (0 : Int32)) ∧ ∃ b k2, h0.size ≤ b ∧ Fld Z h a "java/lang/String" "value" "[B" (.ref b) ∧ Arv Z h b k2 .byte (2 : Int32) [(.int (nar .byte (c0.toInt8.toInt32))), (.int (nar .byte (c1.toInt8.toInt32)))] (.int (0 : Int32)))
theorem ef_jdk_42_method_3_RR (m : MethodId) (x0 : Addr) (x1 : Addr)  : entryFrame m #[(.ref x0), (.ref x1)] 2 = mkF m 0 #[.val (.ref x0), .val (.ref x1)] [] := by first | (simp [entryFrame, mkF, argsToLocals, Value.category]; done) | rfl
theorem d_jdk_42_method_3_0 : decode jdk_42_method_3_code 0 = .ok (.aload_n 0, 1) := by decide +kernel
theorem d_jdk_42_method_3_1 : decode jdk_42_method_3_code 1 = .ok (.aload_n 1, 1) := by decide +kernel
theorem d_jdk_42_method_3_2 : decode jdk_42_method_3_code 2 = .ok (.iconst 0, 1) := by decide +kernel
theorem d_jdk_42_method_3_3 : decode jdk_42_method_3_code 3 = .ok (.aload_n 1, 1) := by decide +kernel
theorem d_jdk_42_method_3_4 : decode jdk_42_method_3_code 4 = .ok (.arraylength, 1) := by decide +kernel
theorem d_jdk_42_method_3_5 : decode jdk_42_method_3_code 5 = .ok (.aconst_null, 1) := by decide +kernel
theorem pd__28_5bCIILjava_2flang_2fVoid_3b_29V : parseMethodDescriptor "([CIILjava/lang/Void;)V" = some ⟨[(.array .char), .int, .int, (.object "java/lang/Void")], none⟩ := by decide +kernel
theorem d_jdk_42_method_3_6 : decode jdk_42_method_3_code 6 = .ok (.invokespecial 27, 3) := by decide +kernel
theorem d_jdk_42_method_3_9 : decode jdk_42_method_3_code 9 = .ok (.return_, 1) := by decide +kernel
set_option maxRecDepth 65536 in
set_option maxHeartbeats 40000000 in
theorem rmIC2 (l : Launch) (Z : State) (a0 : Array Value) (hw : ∀ d ∈ tables_1, d.before a0 Z = true) (ws : List Jvm.Cond) (a : Addr) (d : Addr) (c0 c1 : Int32) (k1 : ClassId) (zc : Int32) (h0 : Heap) (n0 : Nat) (Z0 : n0 ≤ h0.size) (E_a : Exa Z h0 a "java/lang/String") (F_v : Fld Z h0 a "java/lang/String" "value" "[B" .null) (F_c : Fld Z h0 a "java/lang/String" "coder" "B" (.int (0 : Int32))) (g_a : n0 ≤ a) (V_d : Arv Z h0 d k1 .char (2 : Int32) [(.int c0), (.int c1)] (.int (0 : Int32))) (Sc : Sta Z h0 "java/lang/String" "COMPACT_STRINGS" "Z" (.int zc)) (hzc : ¬ zc = 0) (u0 : ¬ ((255 : Int32) < c0)) (u1 : ¬ ((255 : Int32) < c1)) :
    MetFree l (⟨"java/lang/String", "<init>", "([C)V"⟩ : MethodName) (head1 (Jvm.Cond.code (⟨"java/lang/String", "<init>", "([C)V"⟩ : MethodName) jdk_42_method_3_code 2 none :: ws) ({ frames := 3, cells := 1, slots := 2, locals := 52 } : Room)) (fun ar_ U => ar_ = #[(.ref a), (.ref d)] ∧ Z.Warmed39 U.vm ∧ U.heap = h0) (fun _ _ _ _ _ => True) (fun _ U o U' => Phi U (Q_rmIC2 Z a d c0 c1 k1 zc h0 n0) ({ frames := 3, cells := 1, slots := 2, locals := 52 } : Room).cells ({ frames := 3, cells := 1, slots := 2, locals := 52 } : Room).slots o U') := by
  refine MetFree.of_bodySF (plainFor_of_name pn_java_lang_String) hisR ?_
  intro p e s m args below meth c s₁ Bd hml0 hP hK
  obtain ⟨rfl, hZ, hh⟩ := hP
  have hx := Bd.exec
  have hby := Bd.bytes
  have hlk := Bd.notSynchronized
  have hml : c.maxLocals = 2 := hml0
  have hown : s.vm.findClass "java/lang/String" = some m.cls := findClass_of_methodNamed Bd.named
  have hown0 := hown
  have hnm := (name_of_methodNamed Bd.named Bd.method).1
  have hret := Bd.returns
  have X0 : Stand p l e ({ frames := 3, cells := 1, slots := 2, locals := 52 } : Room) s m #[(.ref a), (.ref d)] below meth c s₁ [] 0 0 := Stand.of_body Bd
  have e0 : s₁.heap = h0 := by rw [← hh, Bd.state]; rfl
  have N0 := Fr.nil n0
  have sz := Z0
  have K := Keep.refl h0 [a]
  show Runs p.tables e below (Phi s (Q_rmIC2 Z a d c0 c1 k1 zc h0 n0) ({ frames := 3, cells := 1, slots := 2, locals := 52 } : Room).cells ({ frames := 3, cells := 1, slots := 2, locals := 52 } : Room).slots) _
  refine Runs.st (fun t' k' => castTop (ef_jdk_42_method_3_RR m a d ) k') ?_
  show Runs p.tables e below _ (s₁.setTop (mkF m 0 #[.val (.ref a), .val (.ref d)] []))
  refine Runs.st (fun t' k' => XS.aloadN X0.here hx rfl (hb hby d_jdk_42_method_3_0) rfl rfl k') ?_
  show Runs p.tables e below _ (s₁.setTop (mkF m 1 #[.val (.ref a), .val (.ref d)] [(.ref a)]))
  refine Runs.st (fun t' k' => XS.aloadN X0.here hx rfl (hb hby d_jdk_42_method_3_1) rfl rfl k') ?_
  show Runs p.tables e below _ (s₁.setTop (mkF m 2 #[.val (.ref a), .val (.ref d)] [(.ref d), (.ref a)]))
  refine Runs.st (fun t' k' => XS.iconst X0.here hx rfl (hb hby d_jdk_42_method_3_2) k') ?_
  show Runs p.tables e below _ (s₁.setTop (mkF m 3 #[.val (.ref a), .val (.ref d)] [(.int (0 : Int32)), (.ref d), (.ref a)]))
  refine Runs.st (fun t' k' => XS.aloadN X0.here hx rfl (hb hby d_jdk_42_method_3_3) rfl rfl k') ?_
  show Runs p.tables e below _ (s₁.setTop (mkF m 4 #[.val (.ref a), .val (.ref d)] [(.ref d), (.int (0 : Int32)), (.ref d), (.ref a)]))
  obtain ⟨cl1_, Ar1_, -, S1_, M1_, -, -⟩ := id V_d
  refine Runs.st (X0.arraylength hx (by rw [e0]; exact Ar1_.1) (State.isArrayOf_alike hZ.alike Ar1_.2.1) (g := (mkF m 4 #[.val (.ref a), .val (.ref d)] [(.ref d), (.int (0 : Int32)), (.ref d), (.ref a)])) rfl rfl (hb hby d_jdk_42_method_3_4)) ?_
  rw [len_of S1_ M1_]
  show Runs p.tables e below _ (s₁.setTop (mkF m 5 #[.val (.ref a), .val (.ref d)] [(.int (2 : Int32)), (.int (0 : Int32)), (.ref d), (.ref a)]))
  refine Runs.st (fun t' k' => XS.aconstNull X0.here hx rfl (hb hby d_jdk_42_method_3_5) k') ?_
  show Runs p.tables e below _ (s₁.setTop (mkF m 6 #[.val (.ref a), .val (.ref d)] [.null, (.int (2 : Int32)), (.int (0 : Int32)), (.ref d), (.ref a)]))
  obtain ⟨_, _, ⟨T2_, L2_, k2_, n2_⟩, -, X2_, ⟨Lc2_, hQ2_, l2_, y2_, z2_⟩, st2_⟩ := X0.specialBack hx (y := (⟨"java/lang/String", "<init>", "([CIILjava/lang/Void;)V"⟩ : MethodName)) rfl hown (mvT hZ (hw _ (List.mem_of_getElem? (i := 7) rfl))) (mvT hZ (hw _ (List.mem_of_getElem? (i := 8) rfl))) (mvT hZ (hw _ (List.mem_of_getElem? (i := 10) rfl))) (by decide) (backOf (W := 0) (rmID2 l Z a0 hw [] a d c0 c1 k1 zc h0 n0 sz E_a F_v F_c g_a V_d Sc hzc u0 u1) hZ (hw _ (List.mem_of_getElem? (i := 10) rfl)) (hw _ (List.mem_of_getElem? (i := 3) rfl)) (by decide) (by decide)) (g := (mkF m 6 #[.val (.ref a), .val (.ref d)] [.null, (.int (2 : Int32)), (.int (0 : Int32)), (.ref d), (.ref a)])) rfl (by rw [hml]; rfl) (Steps.refl _) (a := a) (argsL := [(.ref d), (.int (0 : Int32)), (.int (2 : Int32)), .null]) (rest := []) (lenOf pd__28_5bCIILjava_2flang_2fVoid_3b_29V rfl) rfl (by show 2 * 0 + _ ≤ _; exact Nat.le_of_eq rfl) (hb hby d_jdk_42_method_3_6) (fun _ _ => ⟨rfl, e0, (by decide : 0 + 1 ≤ _), (by decide : 0 + 2 ≤ _)⟩)
  dsimp only [Pt.U, Pt.locs, Pt.cells, Pt.slots] at X2_ l2_ y2_ z2_ st2_ hQ2_
  subst l2_ y2_ z2_
  obtain ⟨rfl, N2_q, K2_, E_a, F_c, b, k2, szb, F_v, V_b⟩ := hQ2_
  have N2_ := Fr.app N0 N2_q
  refine Runs.tr st2_ ?_
  replace X2_ := wider X2_ (c' := 1) (s' := 2) (by decide) (by decide)
  replace sz := Nat.le_trans sz K2_.1
  replace K := K.trans K2_ (allS (Or.inl (List.mem_of_getElem? (i := 0) rfl)) all0)
  show Runs p.tables e below _ (T2_.setTop (mkF m 9 #[.val (.ref a), .val (.ref d)] []))
  refine Runs.ret X2_ hlk (v := none) (fun _ => rfl) (by decide) (by decide) ?_ (fun fs hr => X2_.returnOut hx hret (hb hby d_jdk_42_method_3_9) hr)
  exact ⟨rfl, N2_, K, E_a, F_c, b, k2, szb, F_v, V_b⟩
def Q_rmBB (Z : State) (a : Addr) (b : Addr)  (h0 : Heap) (n0 : Nat) : Option Value → Heap → List Loc → Prop := (fun v h L => v = none ∧ Fr n0 L ∧ Keep h0 h [a] ∧ Exa Z h a "java/lang/String" ∧ Fld Z h a "java/lang/String" "coder" "B" (.int (0 : Int32)) ∧ Fld Z h a "java/lang/String" "value" "[B" (.ref b))
theorem ef_jdk_42_method_151_RRI (m : MethodId) (x0 : Addr) (x1 : Addr) (x2 : Int32)  : entryFrame m #[(.ref x0), (.ref x1), (.int x2)] 3 = mkF m 0 #[.val (.ref x0), .val (.ref x1), .val (.int x2)] [] := by first | (simp [entryFrame, mkF, argsToLocals, Value.category]; done) | rfl
theorem d_jdk_42_method_151_0 : decode jdk_42_method_151_code 0 = .ok (.aload_n 0, 1) := by decide +kernel
theorem d_jdk_42_method_151_1 : decode jdk_42_method_151_code 1 = .ok (.invokespecial 1, 3) := by decide +kernel
theorem d_jdk_42_method_151_4 : decode jdk_42_method_151_code 4 = .ok (.aload_n 0, 1) := by decide +kernel
theorem d_jdk_42_method_151_5 : decode jdk_42_method_151_code 5 = .ok (.aload_n 1, 1) := by decide +kernel
theorem d_jdk_42_method_151_6 : decode jdk_42_method_151_code 6 = .ok (.putfield 9, 3) := by decide +kernel
theorem d_jdk_42_method_151_9 : decode jdk_42_method_151_code 9 = .ok (.aload_n 0, 1) := by decide +kernel
theorem d_jdk_42_method_151_10 : decode jdk_42_method_151_code 10 = .ok (.iload_n 2, 1) := by decide +kernel
theorem d_jdk_42_method_151_11 : decode jdk_42_method_151_code 11 = .ok (.putfield 15, 3) := by decide +kernel
theorem d_jdk_42_method_151_14 : decode jdk_42_method_151_code 14 = .ok (.return_, 1) := by decide +kernel
set_option maxRecDepth 65536 in
set_option maxHeartbeats 40000000 in
theorem rmBB (l : Launch) (Z : State) (a0 : Array Value) (hw : ∀ d ∈ tables_1, d.before a0 Z = true) (ws : List Jvm.Cond) (a : Addr) (b : Addr)  (h0 : Heap) (n0 : Nat) (Z0 : n0 ≤ h0.size) (E_a : Exa Z h0 a "java/lang/String") (F_v : Fld Z h0 a "java/lang/String" "value" "[B" .null) (F_c : Fld Z h0 a "java/lang/String" "coder" "B" (.int (0 : Int32))) (g_a : n0 ≤ a) :
    MetFree l (⟨"java/lang/String", "<init>", "([BB)V"⟩ : MethodName) (head1 (Jvm.Cond.code (⟨"java/lang/String", "<init>", "([BB)V"⟩ : MethodName) jdk_42_method_151_code 3 none :: ws) ({ frames := 1, cells := 0, slots := 0, locals := 12 } : Room)) (fun ar_ U => ar_ = #[(.ref a), (.ref b), (.int (0 : Int32))] ∧ Z.Warmed39 U.vm ∧ U.heap = h0) (fun _ _ _ _ _ => True) (fun _ U o U' => Phi U (Q_rmBB Z a b h0 n0) ({ frames := 1, cells := 0, slots := 0, locals := 12 } : Room).cells ({ frames := 1, cells := 0, slots := 0, locals := 12 } : Room).slots o U') := by
  refine MetFree.of_bodySF (plainFor_of_name pn_java_lang_String) hisR ?_
  intro p e s m args below meth c s₁ Bd hml0 hP hK
  obtain ⟨rfl, hZ, hh⟩ := hP
  have hx := Bd.exec
  have hby := Bd.bytes
  have hlk := Bd.notSynchronized
  have hml : c.maxLocals = 3 := hml0
  have hown : s.vm.findClass "java/lang/String" = some m.cls := findClass_of_methodNamed Bd.named
  have hown0 := hown
  have hnm := (name_of_methodNamed Bd.named Bd.method).1
  have hret := Bd.returns
  have X0 : Stand p l e ({ frames := 1, cells := 0, slots := 0, locals := 12 } : Room) s m #[(.ref a), (.ref b), (.int (0 : Int32))] below meth c s₁ [] 0 0 := Stand.of_body Bd
  have e0 : s₁.heap = h0 := by rw [← hh, Bd.state]; rfl
  have N0 := Fr.nil n0
  have sz := Z0
  have K := Keep.refl h0 [a]
  show Runs p.tables e below (Phi s (Q_rmBB Z a b h0 n0) ({ frames := 1, cells := 0, slots := 0, locals := 12 } : Room).cells ({ frames := 1, cells := 0, slots := 0, locals := 12 } : Room).slots) _
  refine Runs.st (fun t' k' => castTop (ef_jdk_42_method_151_RRI m a b (0 : Int32) ) k') ?_
  show Runs p.tables e below _ (s₁.setTop (mkF m 0 #[.val (.ref a), .val (.ref b), .val (.int (0 : Int32))] []))
  refine Runs.st (fun t' k' => XS.aloadN X0.here hx rfl (hb hby d_jdk_42_method_151_0) rfl rfl k') ?_
  show Runs p.tables e below _ (s₁.setTop (mkF m 1 #[.val (.ref a), .val (.ref b), .val (.int (0 : Int32))] [(.ref a)]))
  obtain ⟨T1_, X1_, e1_, st1_⟩ := initO X0 hx hZ hown (hw _ (List.mem_of_getElem? (i := 11) rfl)) (hw _ (List.mem_of_getElem? (i := 12) rfl)) (hw _ (List.mem_of_getElem? (i := 13) rfl)) e0 (g := (mkF m 1 #[.val (.ref a), .val (.ref b), .val (.int (0 : Int32))] [(.ref a)])) rfl (by rw [hml]; rfl) rfl (hb hby d_jdk_42_method_151_1) (by decide) (W := 0) (by show 2 * 0 + _ ≤ _; exact Nat.le_of_eq rfl) (by decide)
  refine Runs.st (st1_) ?_
  show Runs p.tables e below _ (T1_.setTop (mkF m 4 #[.val (.ref a), .val (.ref b), .val (.int (0 : Int32))] []))
  refine Runs.st (fun t' k' => XS.aloadN X1_.here hx rfl (hb hby d_jdk_42_method_151_4) rfl rfl k') ?_
  show Runs p.tables e below _ (T1_.setTop (mkF m 5 #[.val (.ref a), .val (.ref b), .val (.int (0 : Int32))] [(.ref a)]))
  refine Runs.st (fun t' k' => XS.aloadN X1_.here hx rfl (hb hby d_jdk_42_method_151_5) rfl rfl k') ?_
  show Runs p.tables e below _ (T1_.setTop (mkF m 6 #[.val (.ref a), .val (.ref b), .val (.int (0 : Int32))] [(.ref b), (.ref a)]))
  obtain ⟨T2_, h2_, X2_, e2_, W2_, st2_⟩ := putF X1_ hx hZ hown (host := "") (Or.inl (hw _ (List.mem_of_getElem? (i := 28) rfl))) Via.refl e1_ F_v E_a (Or.inr ⟨(hw _ (List.mem_of_getElem? (i := 29) rfl)), rfl, hnm⟩) (hw _ (List.mem_of_getElem? (i := 2) rfl)) (ty := (.array .byte)) (by decide) rfl rfl (g := (mkF m 6 #[.val (.ref a), .val (.ref b), .val (.int (0 : Int32))] [(.ref b), (.ref a)])) rfl rfl (hb hby d_jdk_42_method_151_6)
  refine Runs.st (st2_) ?_
  replace F_v := F_v.same W2_
  replace E_a := Jvm.RoadKit.Exa.wr W2_ E_a
  replace F_c := F_c.other W2_ (Or.inr (slot_ne (Or.inr (hw _ (List.mem_of_getElem? (i := 27) rfl))) (Or.inr (hw _ (List.mem_of_getElem? (i := 29) rfl))) (by decide) (t := .byte) (t' := (.array .byte)) (by decide) (by decide)))
  replace sz := Nat.le_trans sz (Keep.of_wr W2_).1
  have N2_ := Fr.snoc X2_ N0 g_a
  replace K := K.wr W2_ (Or.inl (List.mem_of_getElem? (i := 0) rfl))
  show Runs p.tables e below _ (T2_.setTop (mkF m 9 #[.val (.ref a), .val (.ref b), .val (.int (0 : Int32))] []))
  refine Runs.st (fun t' k' => XS.aloadN X2_.here hx rfl (hb hby d_jdk_42_method_151_9) rfl rfl k') ?_
  show Runs p.tables e below _ (T2_.setTop (mkF m 10 #[.val (.ref a), .val (.ref b), .val (.int (0 : Int32))] [(.ref a)]))
  refine Runs.st (fun t' k' => XS.iloadN X2_.here hx rfl (hb hby d_jdk_42_method_151_10) rfl k') ?_
  show Runs p.tables e below _ (T2_.setTop (mkF m 11 #[.val (.ref a), .val (.ref b), .val (.int (0 : Int32))] [(.int (0 : Int32)), (.ref a)]))
  obtain ⟨T3_, h3_, X3_, e3_, W3_, st3_⟩ := putFN X2_ hx hZ hown (hw _ (List.mem_of_getElem? (i := 26) rfl)) Via.refl e2_ F_c E_a (Or.inr ⟨(hw _ (List.mem_of_getElem? (i := 27) rfl)), rfl, hnm⟩) (hw _ (List.mem_of_getElem? (i := 2) rfl)) (ty := .byte) (v' := .int (0 : Int32)) (by decide) rfl rfl (g := (mkF m 11 #[.val (.ref a), .val (.ref b), .val (.int (0 : Int32))] [(.int (0 : Int32)), (.ref a)])) rfl rfl (hb hby d_jdk_42_method_151_11)
  refine Runs.st (st3_) ?_
  replace F_c := F_c.same W3_
  replace E_a := Jvm.RoadKit.Exa.wr W3_ E_a
  replace F_v := F_v.other W3_ (Or.inr (slot_ne (Or.inr (hw _ (List.mem_of_getElem? (i := 29) rfl))) (Or.inr (hw _ (List.mem_of_getElem? (i := 27) rfl))) (by decide) (t := (.array .byte)) (t' := .byte) (by decide) (by decide)))
  replace sz := Nat.le_trans sz (Keep.of_wr W3_).1
  have N3_ := Fr.snoc X3_ N2_ g_a
  replace K := K.wr W3_ (Or.inl (List.mem_of_getElem? (i := 0) rfl))
  show Runs p.tables e below _ (T3_.setTop (mkF m 14 #[.val (.ref a), .val (.ref b), .val (.int (0 : Int32))] []))
  refine Runs.ret X3_ hlk (v := none) (fun _ => rfl) (by decide) (by decide) ?_ (fun fs hr => X3_.returnOut hx hret (hb hby d_jdk_42_method_151_14) hr)
  try rw [e3_]
  exact ⟨rfl, N3_, K, E_a, F_c, F_v⟩
def Q_rmCan (Z : State) (c0 : Int32)  (h0 : Heap) (n0 : Nat) : Option Value → Heap → List Loc → Prop := (fun v h L => v = some (.int (1 : Int32)) ∧ Fr n0 L ∧ h = h0)
theorem pn_java_lang_StringLatin1 : plainName "java/lang/StringLatin1" = true := by first | (simp [plainName, overriddenIn]; done) | decide +kernel
theorem ef_jdk_43_method_3_I (m : MethodId) (x0 : Int32)  : entryFrame m #[(.int x0)] 1 = mkF m 0 #[.val (.int x0)] [] := by first | (simp [entryFrame, mkF, argsToLocals, Value.category]; done) | rfl
theorem d_jdk_43_method_3_0 : decode jdk_43_method_3_code 0 = .ok (.iload_n 0, 1) := by decide +kernel
theorem d_jdk_43_method_3_1 : decode jdk_43_method_3_code 1 = .ok (.sipush 255, 3) := by decide +kernel
theorem d_jdk_43_method_3_4 : decode jdk_43_method_3_code 4 = .ok (.if_icmp .gt 7, 3) := by decide +kernel
theorem d_jdk_43_method_3_7 : decode jdk_43_method_3_code 7 = .ok (.iconst 1, 1) := by decide +kernel
theorem d_jdk_43_method_3_8 : decode jdk_43_method_3_code 8 = .ok (.goto 4, 3) := by decide +kernel
theorem d_jdk_43_method_3_12 : decode jdk_43_method_3_code 12 = .ok (.ireturn, 1) := by decide +kernel
set_option maxRecDepth 65536 in
set_option maxHeartbeats 40000000 in
theorem rmCan (l : Launch) (Z : State) (a0 : Array Value) (hw : ∀ d ∈ tables_1, d.before a0 Z = true) (ws : List Jvm.Cond) (c0 : Int32)  (h0 : Heap) (n0 : Nat) (Z0 : n0 ≤ h0.size) (u0 : ¬ ((255 : Int32) < c0)) :
    MetFree l (⟨"java/lang/StringLatin1", "canEncode", "(C)Z"⟩ : MethodName) (head1 (Jvm.Cond.code (⟨"java/lang/StringLatin1", "canEncode", "(C)Z"⟩ : MethodName) jdk_43_method_3_code 1 (some .boolean) :: ws) ({ frames := 0, cells := 0, slots := 0, locals := 0 } : Room)) (fun ar_ U => ar_ = #[(.int c0)] ∧ Z.Warmed39 U.vm ∧ U.heap = h0) (fun _ _ _ _ _ => True) (fun _ U o U' => Phi U (Q_rmCan Z c0 h0 n0) ({ frames := 0, cells := 0, slots := 0, locals := 0 } : Room).cells ({ frames := 0, cells := 0, slots := 0, locals := 0 } : Room).slots o U') := by
  refine MetFree.of_bodySF (plainFor_of_name pn_java_lang_StringLatin1) hisR ?_
  intro p e s m args below meth c s₁ Bd hml0 hP hK
  obtain ⟨rfl, hZ, hh⟩ := hP
  have hx := Bd.exec
  have hby := Bd.bytes
  have hlk := Bd.notSynchronized
  have hml : c.maxLocals = 1 := hml0
  have hown : s.vm.findClass "java/lang/StringLatin1" = some m.cls := findClass_of_methodNamed Bd.named
  have hown0 := hown
  have hnm := (name_of_methodNamed Bd.named Bd.method).1
  have hret := Bd.returns
  have X0 : Stand p l e ({ frames := 0, cells := 0, slots := 0, locals := 0 } : Room) s m #[(.int c0)] below meth c s₁ [] 0 0 := Stand.of_body Bd
  have e0 : s₁.heap = h0 := by rw [← hh, Bd.state]; rfl
  have N0 := Fr.nil n0
  have sz := Z0
  have K := Keep.refl h0 []
  show Runs p.tables e below (Phi s (Q_rmCan Z c0 h0 n0) ({ frames := 0, cells := 0, slots := 0, locals := 0 } : Room).cells ({ frames := 0, cells := 0, slots := 0, locals := 0 } : Room).slots) _
  refine Runs.st (fun t' k' => castTop (ef_jdk_43_method_3_I m c0 ) k') ?_
  show Runs p.tables e below _ (s₁.setTop (mkF m 0 #[.val (.int c0)] []))
  refine Runs.st (fun t' k' => XS.iloadN X0.here hx rfl (hb hby d_jdk_43_method_3_0) rfl k') ?_
  show Runs p.tables e below _ (s₁.setTop (mkF m 1 #[.val (.int c0)] [(.int c0)]))
  refine Runs.st (fun t' k' => XS.sipush X0.here hx rfl (hb hby d_jdk_43_method_3_1) k') ?_
  show Runs p.tables e below _ (s₁.setTop (mkF m 4 #[.val (.int c0)] [(.int (255 : Int32)), (.int c0)]))
  refine Runs.st (fun t' k' => XS.icmpNo X0.here hx rfl (hb hby d_jdk_43_method_3_4) rfl (flt u0).2.2.1 k') ?_
  show Runs p.tables e below _ (s₁.setTop (mkF m 7 #[.val (.int c0)] []))
  refine Runs.st (fun t' k' => XS.iconst X0.here hx rfl (hb hby d_jdk_43_method_3_7) k') ?_
  show Runs p.tables e below _ (s₁.setTop (mkF m 8 #[.val (.int c0)] [(.int (1 : Int32))]))
  refine Runs.st (fun t' k' => XS.goto X0.here hx rfl (pc0 := 8) (pc' := 12) rfl (hb hby d_jdk_43_method_3_8) (by decide) (by decide) k') ?_
  show Runs p.tables e below _ (s₁.setTop (mkF m 12 #[.val (.int c0)] [(.int (1 : Int32))]))
  refine Runs.ret X0 hlk (v := (some (.int (1 : Int32)))) (fun h => by rw [hret] at h; cases h) (by decide) (by decide) ?_ (fun fs hr => retN X0 hx (t := .boolean) hret (by simp) (hb hby d_jdk_43_method_3_12) hr)
  try rw [e0]
  exact ⟨rfl, N0, rfl⟩
def Q_rmTB (Z : State) (c0 : Int32)  (h0 : Heap) (n0 : Nat) : Option Value → Heap → List Loc → Prop := (fun v h L => ∃ b k, v = some (.ref b) ∧ Fr n0 L ∧ Keep h0 h [] ∧ h0.size ≤ b ∧ Arv Z h b k .byte (1 : Int32) [(.int (nar .byte (c0.toInt8.toInt32)))] (.int (0 : Int32)))
theorem ef_jdk_43_method_46_I (m : MethodId) (x0 : Int32)  : entryFrame m #[(.int x0)] 1 = mkF m 0 #[.val (.int x0)] [] := by first | (simp [entryFrame, mkF, argsToLocals, Value.category]; done) | rfl
theorem d_jdk_43_method_46_0 : decode jdk_43_method_46_code 0 = .ok (.iconst 1, 1) := by decide +kernel
theorem d_jdk_43_method_46_1 : decode jdk_43_method_46_code 1 = .ok (.newarray .byte, 2) := by decide +kernel
theorem d_jdk_43_method_46_3 : decode jdk_43_method_46_code 3 = .ok (.dup, 1) := by decide +kernel
theorem d_jdk_43_method_46_4 : decode jdk_43_method_46_code 4 = .ok (.iconst 0, 1) := by decide +kernel
theorem d_jdk_43_method_46_5 : decode jdk_43_method_46_code 5 = .ok (.iload_n 0, 1) := by decide +kernel
theorem d_jdk_43_method_46_6 : decode jdk_43_method_46_code 6 = .ok (.i2b, 1) := by decide +kernel
theorem d_jdk_43_method_46_7 : decode jdk_43_method_46_code 7 = .ok (.bastore, 1) := by decide +kernel
theorem d_jdk_43_method_46_8 : decode jdk_43_method_46_code 8 = .ok (.areturn, 1) := by decide +kernel
set_option maxRecDepth 65536 in
set_option maxHeartbeats 40000000 in
theorem rmTB (l : Launch) (Z : State) (a0 : Array Value) (hw : ∀ d ∈ tables_1, d.before a0 Z = true) (ws : List Jvm.Cond) (c0 : Int32)  (h0 : Heap) (n0 : Nat) (Z0 : n0 ≤ h0.size)  :
    MetFree l (⟨"java/lang/StringLatin1", "toBytes", "(C)[B"⟩ : MethodName) (head1 (Jvm.Cond.code (⟨"java/lang/StringLatin1", "toBytes", "(C)[B"⟩ : MethodName) jdk_43_method_46_code 1 (some (.array .byte)) :: ws) ({ frames := 0, cells := 1, slots := 1, locals := 0 } : Room)) (fun ar_ U => ar_ = #[(.int c0)] ∧ Z.Warmed39 U.vm ∧ U.heap = h0) (fun _ _ _ _ _ => True) (fun _ U o U' => Phi U (Q_rmTB Z c0 h0 n0) ({ frames := 0, cells := 1, slots := 1, locals := 0 } : Room).cells ({ frames := 0, cells := 1, slots := 1, locals := 0 } : Room).slots o U') := by
  refine MetFree.of_bodySF (plainFor_of_name pn_java_lang_StringLatin1) hisR ?_
  intro p e s m args below meth c s₁ Bd hml0 hP hK
  obtain ⟨rfl, hZ, hh⟩ := hP
  have hx := Bd.exec
  have hby := Bd.bytes
  have hlk := Bd.notSynchronized
  have hml : c.maxLocals = 1 := hml0
  have hown : s.vm.findClass "java/lang/StringLatin1" = some m.cls := findClass_of_methodNamed Bd.named
  have hown0 := hown
  have hnm := (name_of_methodNamed Bd.named Bd.method).1
  have hret := Bd.returns
  have X0 : Stand p l e ({ frames := 0, cells := 1, slots := 1, locals := 0 } : Room) s m #[(.int c0)] below meth c s₁ [] 0 0 := Stand.of_body Bd
  have e0 : s₁.heap = h0 := by rw [← hh, Bd.state]; rfl
  have N0 := Fr.nil n0
  have sz := Z0
  have K := Keep.refl h0 []
  show Runs p.tables e below (Phi s (Q_rmTB Z c0 h0 n0) ({ frames := 0, cells := 1, slots := 1, locals := 0 } : Room).cells ({ frames := 0, cells := 1, slots := 1, locals := 0 } : Room).slots) _
  refine Runs.st (fun t' k' => castTop (ef_jdk_43_method_46_I m c0 ) k') ?_
  show Runs p.tables e below _ (s₁.setTop (mkF m 0 #[.val (.int c0)] []))
  refine Runs.st (fun t' k' => XS.iconst X0.here hx rfl (hb hby d_jdk_43_method_46_0) k') ?_
  show Runs p.tables e below _ (s₁.setTop (mkF m 1 #[.val (.int c0)] [(.int (1 : Int32))]))
  obtain ⟨T1_, h1_, k1_, X1_, e1_, E1_, A1_, st1_⟩ := newP X0 hx hZ (hw _ (List.mem_of_getElem? (i := 19) rfl)) e0 (g := (mkF m 1 #[.val (.int c0)] [(.int (1 : Int32))])) rfl (hb hby d_jdk_43_method_46_1) rfl (by decide) (cap := 1) (by decide) (by decide) (by decide) (by decide)
  refine Runs.st (st1_) ?_
  obtain ⟨b, g1_⟩ : ∃ z, z = h0.size := ⟨_, rfl⟩
  rw [← g1_] at A1_
  try rw [← g1_]
  have g_b : n0 ≤ b := Nat.le_trans sz (Nat.le_of_eq g1_.symm)
  have sz_b : h0.size ≤ b := Nat.le_trans K.1 (Nat.le_of_eq g1_.symm)
  replace sz := Nat.le_trans sz E1_.1
  replace K := K.ext E1_
  have V_b : Arv Z h1_ b k1_ .byte (1 : Int32) [(.int (0 : Int32))] (.int (0 : Int32)) := (Arv.new A1_ (by decide)).pad (pad_rep [] (.int (0 : Int32)) 1)
  show Runs p.tables e below _ (T1_.setTop (mkF m 3 #[.val (.int c0)] [(.ref b)]))
  refine Runs.st (fun t' k' => XS.dup X1_.here hx rfl (hb hby d_jdk_43_method_46_3) rfl rfl k') ?_
  show Runs p.tables e below _ (T1_.setTop (mkF m 4 #[.val (.int c0)] [(.ref b), (.ref b)]))
  refine Runs.st (fun t' k' => XS.iconst X1_.here hx rfl (hb hby d_jdk_43_method_46_4) k') ?_
  show Runs p.tables e below _ (T1_.setTop (mkF m 5 #[.val (.int c0)] [(.int (0 : Int32)), (.ref b), (.ref b)]))
  refine Runs.st (fun t' k' => XS.iloadN X1_.here hx rfl (hb hby d_jdk_43_method_46_5) rfl k') ?_
  show Runs p.tables e below _ (T1_.setTop (mkF m 6 #[.val (.int c0)] [(.int c0), (.int (0 : Int32)), (.ref b), (.ref b)]))
  refine Runs.st (fun t' k' => XS.i2b X1_.here hx rfl (hb hby d_jdk_43_method_46_6) rfl k') ?_
  show Runs p.tables e below _ (T1_.setTop (mkF m 7 #[.val (.int c0)] [(.int (c0.toInt8.toInt32)), (.int (0 : Int32)), (.ref b), (.ref b)]))
  obtain ⟨cl2_, Ar2_, q2_, S2_, M2_, Ha2_, G2_⟩ := V_b
  have hin2_ : ¬ ((0 : Int32) < 0 ∨ cl2_.slots.size ≤ ((0 : Int32)).toNatClampNeg) := inb_of S2_ ⟨by decide, by decide⟩
  obtain ⟨T2_, h2_, X2_, e2_, W2_, st2_⟩ := stB X1_ hx hZ e1_ Ar2_ (j := (0 : Int32)) hin2_ (g := (mkF m 7 #[.val (.int c0)] [(.int (c0.toInt8.toInt32)), (.int (0 : Int32)), (.ref b), (.ref b)])) rfl rfl (hb hby d_jdk_43_method_46_7)
  refine Runs.st (st2_) ?_
  have V_b := Arv.set Ar2_ q2_ S2_ M2_ Ha2_ G2_ (fits_nar_byte _) W2_ 0 rfl (Nat.le_of_ble_eq_true rfl)
  replace sz := Nat.le_trans sz (Keep.of_wr W2_).1
  have N2_ := Fr.snoc X2_ N0 g_b
  replace K := K.wr W2_ (Or.inr sz_b)
  show Runs p.tables e below _ (T2_.setTop (mkF m 8 #[.val (.int c0)] [(.ref b)]))
  refine Runs.ret X2_ hlk (v := (some (.ref b))) (fun h => by rw [hret] at h; cases h) (by decide) (by decide) ?_ (fun fs hr => retOut X2_ hx hret rfl (Or.inr (Or.inr (Or.inr (Or.inr ⟨rfl, rfl, rfl⟩)))) (hb hby d_jdk_43_method_46_8) hr)
  try rw [e2_]
  exact ⟨b, _, rfl, N2_, K, sz_b, V_b⟩
def Q_rmVO (Z : State) (c0 : Int32) (zc : Int32) (h0 : Heap) (n0 : Nat) : Option Value → Heap → List Loc → Prop := (fun v h L => ∃ a b k, v = some (.ref a) ∧ Fr n0 L ∧ Keep h0 h [] ∧ h0.size ≤ a ∧ h0.size ≤ b ∧ a ≠ b ∧ Exa Z h a "java/lang/String" ∧ Fld Z h a "java/lang/String" "coder" "B" (.int (0 : Int32)) ∧ Fld Z h a "java/lang/String" "value" "[B" (.ref b) ∧ Arv Z h b k .byte (1 : Int32) [(.int (nar .byte (c0.toInt8.toInt32)))] (.int (0 : Int32)))
theorem ef_jdk_42_method_139_I (m : MethodId) (x0 : Int32)  : entryFrame m #[(.int x0)] 1 = mkF m 0 #[.val (.int x0)] [] := by first | (simp [entryFrame, mkF, argsToLocals, Value.category]; done) | rfl
theorem d_jdk_42_method_139_0 : decode jdk_42_method_139_code 0 = .ok (.getstatic 38, 3) := by decide +kernel
theorem d_jdk_42_method_139_3 : decode jdk_42_method_139_code 3 = .ok (.ifCond .eq 23, 3) := by decide +kernel
theorem d_jdk_42_method_139_6 : decode jdk_42_method_139_code 6 = .ok (.iload_n 0, 1) := by decide +kernel
theorem pd__28C_29Z : parseMethodDescriptor "(C)Z" = some ⟨[.char], some .boolean⟩ := by decide +kernel
theorem d_jdk_42_method_139_7 : decode jdk_42_method_139_code 7 = .ok (.invokestatic 1015, 3) := by decide +kernel
theorem d_jdk_42_method_139_10 : decode jdk_42_method_139_code 10 = .ok (.ifCond .eq 16, 3) := by decide +kernel
theorem d_jdk_42_method_139_13 : decode jdk_42_method_139_code 13 = .ok (.new 10, 3) := by decide +kernel
theorem d_jdk_42_method_139_16 : decode jdk_42_method_139_code 16 = .ok (.dup, 1) := by decide +kernel
theorem d_jdk_42_method_139_17 : decode jdk_42_method_139_code 17 = .ok (.iload_n 0, 1) := by decide +kernel
theorem pd__28C_29_5bB : parseMethodDescriptor "(C)[B" = some ⟨[.char], some (.array .byte)⟩ := by decide +kernel
theorem d_jdk_42_method_139_18 : decode jdk_42_method_139_code 18 = .ok (.invokestatic 1018, 3) := by decide +kernel
theorem d_jdk_42_method_139_21 : decode jdk_42_method_139_code 21 = .ok (.iconst 0, 1) := by decide +kernel
theorem pd__28_5bBB_29V : parseMethodDescriptor "([BB)V" = some ⟨[(.array .byte), .byte], none⟩ := by decide +kernel
theorem d_jdk_42_method_139_22 : decode jdk_42_method_139_code 22 = .ok (.invokespecial 209, 3) := by decide +kernel
theorem d_jdk_42_method_139_25 : decode jdk_42_method_139_code 25 = .ok (.areturn, 1) := by decide +kernel
set_option maxRecDepth 65536 in
set_option maxHeartbeats 40000000 in
theorem rmVO (l : Launch) (Z : State) (a0 : Array Value) (hw : ∀ d ∈ tables_1, d.before a0 Z = true) (ws : List Jvm.Cond) (c0 : Int32) (zc : Int32) (h0 : Heap) (n0 : Nat) (Z0 : n0 ≤ h0.size) (Sc : Sta Z h0 "java/lang/String" "COMPACT_STRINGS" "Z" (.int zc)) (hzc : ¬ zc = 0) (u0 : ¬ ((255 : Int32) < c0)) :
    MetFree l (⟨"java/lang/String", "valueOf", "(C)Ljava/lang/String;"⟩ : MethodName) (head1 (Jvm.Cond.code (⟨"java/lang/String", "valueOf", "(C)Ljava/lang/String;"⟩ : MethodName) jdk_42_method_139_code 1 (some (.object "java/lang/String")) :: ws) ({ frames := 2, cells := 2, slots := 5, locals := 29 } : Room)) (fun ar_ U => ar_ = #[(.int c0)] ∧ Z.Warmed39 U.vm ∧ U.heap = h0) (fun _ _ _ _ _ => True) (fun _ U o U' => Phi U (Q_rmVO Z c0 zc h0 n0) ({ frames := 2, cells := 2, slots := 5, locals := 29 } : Room).cells ({ frames := 2, cells := 2, slots := 5, locals := 29 } : Room).slots o U') := by
  refine MetFree.of_bodySF (plainFor_of_name pn_java_lang_String) hisR ?_
  intro p e s m args below meth c s₁ Bd hml0 hP hK
  obtain ⟨rfl, hZ, hh⟩ := hP
  have hx := Bd.exec
  have hby := Bd.bytes
  have hlk := Bd.notSynchronized
  have hml : c.maxLocals = 1 := hml0
  have hown : s.vm.findClass "java/lang/String" = some m.cls := findClass_of_methodNamed Bd.named
  have hown0 := hown
  have hnm := (name_of_methodNamed Bd.named Bd.method).1
  have hret := Bd.returns
  have X0 : Stand p l e ({ frames := 2, cells := 2, slots := 5, locals := 29 } : Room) s m #[(.int c0)] below meth c s₁ [] 0 0 := Stand.of_body Bd
  have e0 : s₁.heap = h0 := by rw [← hh, Bd.state]; rfl
  have N0 := Fr.nil n0
  have sz := Z0
  have K := Keep.refl h0 []
  show Runs p.tables e below (Phi s (Q_rmVO Z c0 zc h0 n0) ({ frames := 2, cells := 2, slots := 5, locals := 29 } : Room).cells ({ frames := 2, cells := 2, slots := 5, locals := 29 } : Room).slots) _
  refine Runs.st (fun t' k' => castTop (ef_jdk_42_method_139_I m c0 ) k') ?_
  show Runs p.tables e below _ (s₁.setTop (mkF m 0 #[.val (.int c0)] []))
  obtain ⟨T1_, X1_, e1_, st1_⟩ := getS2 X0 hx hZ hown (host := "") (Or.inl (hw _ (List.mem_of_getElem? (i := 14) rfl))) Via.refl e0 Sc (g := (mkF m 0 #[.val (.int c0)] [])) rfl (hb hby d_jdk_42_method_139_0)
  refine Runs.st (st1_) ?_
  show Runs p.tables e below _ (T1_.setTop (mkF m 3 #[.val (.int c0)] [(.int zc)]))
  refine Runs.st (fun t' k' => XS.ifNo X1_.here hx rfl (hb hby d_jdk_42_method_139_3) rfl ((if0 _ _).trans (feq hzc).1) k') ?_
  show Runs p.tables e below _ (T1_.setTop (mkF m 6 #[.val (.int c0)] []))
  refine Runs.st (fun t' k' => XS.iloadN X1_.here hx rfl (hb hby d_jdk_42_method_139_6) rfl k') ?_
  show Runs p.tables e below _ (T1_.setTop (mkF m 7 #[.val (.int c0)] [(.int c0)]))
  obtain ⟨_, _, ⟨T2_, L2_, k2_, n2_⟩, -, X2_, ⟨Lc2_, hQ2_, l2_, y2_, z2_⟩, st2_⟩ := Jvm.LawKit.callS X1_ hx (y := (⟨"java/lang/StringLatin1", "canEncode", "(C)Z"⟩ : MethodName)) hown (mvT hZ (hw _ (List.mem_of_getElem? (i := 33) rfl))) (mvT hZ (hw _ (List.mem_of_getElem? (i := 34) rfl))) (mvT hZ (hw _ (List.mem_of_getElem? (i := 35) rfl))) (mvT hZ (hw _ (List.mem_of_getElem? (i := 36) rfl))) (by decide) (backOf (W := 0) (rmCan l Z a0 hw [] c0 h0 n0 sz u0) hZ (hw _ (List.mem_of_getElem? (i := 36) rfl)) (hw _ (List.mem_of_getElem? (i := 35) rfl)) (by decide) (by decide)) (g := (mkF m 7 #[.val (.int c0)] [(.int c0)])) rfl (by rw [hml]; rfl) (argsL := [(.int c0)]) (rest := []) (lenOf pd__28C_29Z rfl) rfl (by show 2 * 0 + _ ≤ _; exact Nat.le_of_eq rfl) (hb hby d_jdk_42_method_139_7) (fun _ _ => ⟨rfl, e1_, (by decide : 0 + 0 ≤ _), (by decide : 0 + 0 ≤ _)⟩)
  dsimp only [Pt.U, Pt.locs, Pt.cells, Pt.slots] at X2_ l2_ y2_ z2_ st2_ hQ2_
  subst l2_ y2_ z2_
  obtain ⟨rfl, N2_q, e2_⟩ := hQ2_
  have N2_ := Fr.app N0 N2_q
  refine Runs.st (st2_) ?_
  replace X2_ := wider X2_ (c' := 0) (s' := 0) (by decide) (by decide)
  show Runs p.tables e below _ (T2_.setTop (mkF m 10 #[.val (.int c0)] [(.int (1 : Int32))]))
  refine Runs.st (fun t' k' => XS.ifNo X2_.here hx rfl (hb hby d_jdk_42_method_139_10) rfl ((if0 _ _).trans (feq (by decide)).1) k') ?_
  show Runs p.tables e below _ (T2_.setTop (mkF m 13 #[.val (.int c0)] []))
  obtain ⟨T3_, h3_, X3_, e3_, E3_, A3_, D3_, -, st3_⟩ := newO X2_ hx hZ hown (hw _ (List.mem_of_getElem? (i := 37) rfl)) (hw _ (List.mem_of_getElem? (i := 2) rfl)) (hw _ (List.mem_of_getElem? (i := 3) rfl)) e2_ (g := (mkF m 13 #[.val (.int c0)] [])) rfl (hb hby d_jdk_42_method_139_13) (by decide) (by decide)
  refine Runs.st (st3_) ?_
  obtain ⟨a, g3_⟩ : ∃ z, z = h0.size := ⟨_, rfl⟩
  rw [← g3_] at A3_ D3_
  try rw [← g3_]
  have g_a : n0 ≤ a := Nat.le_trans sz (Nat.le_of_eq g3_.symm)
  have sz_a : h0.size ≤ a := Nat.le_trans K.1 (Nat.le_of_eq g3_.symm)
  replace sz := Nat.le_trans sz E3_.1
  replace K := K.ext E3_
  have E_a := A3_
  have F_a_coder : Fld Z h3_ a "java/lang/String" "coder" "B" (.int (0 : Int32)) := D3_ (Or.inr (hw _ (List.mem_of_getElem? (i := 27) rfl))) (ty := .byte) (by decide)
  have F_a_value : Fld Z h3_ a "java/lang/String" "value" "[B" .null := D3_ (Or.inr (hw _ (List.mem_of_getElem? (i := 29) rfl))) (ty := (.array .byte)) (by decide)
  show Runs p.tables e below _ (T3_.setTop (mkF m 16 #[.val (.int c0)] [(.ref a)]))
  refine Runs.st (fun t' k' => XS.dup X3_.here hx rfl (hb hby d_jdk_42_method_139_16) rfl rfl k') ?_
  show Runs p.tables e below _ (T3_.setTop (mkF m 17 #[.val (.int c0)] [(.ref a), (.ref a)]))
  refine Runs.st (fun t' k' => XS.iloadN X3_.here hx rfl (hb hby d_jdk_42_method_139_17) rfl k') ?_
  show Runs p.tables e below _ (T3_.setTop (mkF m 18 #[.val (.int c0)] [(.int c0), (.ref a), (.ref a)]))
  have kz4_ := K.1
  have gz4_ := sz
  have lt4__a := E_a.lt
  obtain ⟨_, _, ⟨T4_, L4_, k4_, n4_⟩, -, X4_, ⟨Lc4_, hQ4_, l4_, y4_, z4_⟩, st4_⟩ := Jvm.LawKit.callS X3_ hx (y := (⟨"java/lang/StringLatin1", "toBytes", "(C)[B"⟩ : MethodName)) hown (mvT hZ (hw _ (List.mem_of_getElem? (i := 38) rfl))) (mvT hZ (hw _ (List.mem_of_getElem? (i := 39) rfl))) (mvT hZ (hw _ (List.mem_of_getElem? (i := 35) rfl))) (mvT hZ (hw _ (List.mem_of_getElem? (i := 40) rfl))) (by decide) (backOf (W := 2) (rmTB l Z a0 hw [] c0 h3_ n0 sz) hZ (hw _ (List.mem_of_getElem? (i := 40) rfl)) (hw _ (List.mem_of_getElem? (i := 35) rfl)) (by decide) (by decide)) (g := (mkF m 18 #[.val (.int c0)] [(.int c0), (.ref a), (.ref a)])) rfl (by rw [hml]; rfl) (argsL := [(.int c0)]) (rest := [(.ref a), (.ref a)]) (lenOf pd__28C_29_5bB rfl) rfl (by show 2 * 0 + _ ≤ _; exact Nat.le_of_eq rfl) (hb hby d_jdk_42_method_139_18) (fun _ _ => ⟨rfl, e3_, (by decide : 1 + 1 ≤ _), (by decide : 4 + 1 ≤ _)⟩)
  dsimp only [Pt.U, Pt.locs, Pt.cells, Pt.slots] at X4_ l4_ y4_ z4_ st4_ hQ4_
  subst l4_ y4_ z4_
  obtain ⟨b, kb, rfl, N4_q, K4_, szb, V_b⟩ := hQ4_
  have N4_ := Fr.app N2_ N4_q
  refine Runs.st (st4_) ?_
  replace X4_ := wider X4_ (c' := 2) (s' := 5) (by decide) (by decide)
  replace E_a := E_a.keep K4_
  replace F_a_coder := F_a_coder.keep K4_ nin0
  replace F_a_value := F_a_value.keep K4_ nin0
  replace sz := Nat.le_trans sz K4_.1
  replace K := K.trans K4_ all0
  have sz_b : h0.size ≤ b := Nat.le_trans kz4_ szb
  have g_b : n0 ≤ b := Nat.le_trans gz4_ szb
  have ne_a_b : a ≠ b := Nat.ne_of_lt (Nat.lt_of_lt_of_le lt4__a szb)
  show Runs p.tables e below _ (T4_.setTop (mkF m 21 #[.val (.int c0)] [(.ref b), (.ref a), (.ref a)]))
  refine Runs.st (fun t' k' => XS.iconst X4_.here hx rfl (hb hby d_jdk_42_method_139_21) k') ?_
  show Runs p.tables e below _ (T4_.setTop (mkF m 22 #[.val (.int c0)] [(.int (0 : Int32)), (.ref b), (.ref a), (.ref a)]))
  obtain ⟨_, _, ⟨T5_, L5_, k5_, n5_⟩, -, X5_, ⟨Lc5_, hQ5_, l5_, y5_, z5_⟩, st5_⟩ := X4_.specialBack hx (y := (⟨"java/lang/String", "<init>", "([BB)V"⟩ : MethodName)) rfl hown (mvT hZ (hw _ (List.mem_of_getElem? (i := 41) rfl))) (mvT hZ (hw _ (List.mem_of_getElem? (i := 42) rfl))) (mvT hZ (hw _ (List.mem_of_getElem? (i := 43) rfl))) (by decide) (backOf (W := 1) (rmBB l Z a0 hw [] a b T4_.heap n0 sz E_a F_a_value F_a_coder g_a) hZ (hw _ (List.mem_of_getElem? (i := 43) rfl)) (hw _ (List.mem_of_getElem? (i := 3) rfl)) (by decide) (by decide)) (g := (mkF m 22 #[.val (.int c0)] [(.int (0 : Int32)), (.ref b), (.ref a), (.ref a)])) rfl (by rw [hml]; rfl) (Steps.refl _) (a := a) (argsL := [(.ref b), (.int (0 : Int32))]) (rest := [(.ref a)]) (lenOf pd__28_5bBB_29V rfl) rfl (by show 2 * 0 + _ ≤ _; exact Nat.le_of_eq rfl) (hb hby d_jdk_42_method_139_22) (fun _ _ => ⟨rfl, rfl, (by decide : 2 + 0 ≤ _), (by decide : 5 + 0 ≤ _)⟩)
  dsimp only [Pt.U, Pt.locs, Pt.cells, Pt.slots] at X5_ l5_ y5_ z5_ st5_ hQ5_
  subst l5_ y5_ z5_
  obtain ⟨rfl, N5_q, K5_, E_a, F_a_coder, F_a_value⟩ := hQ5_
  have N5_ := Fr.app N4_ N5_q
  refine Runs.tr st5_ ?_
  replace X5_ := wider X5_ (c' := 2) (s' := 5) (by decide) (by decide)
  replace V_b := V_b.keep K5_ (ninS (Ne.symm ne_a_b) nin0)
  replace sz := Nat.le_trans sz K5_.1
  replace K := K.trans K5_ (allS (Or.inr sz_a) all0)
  show Runs p.tables e below _ (T5_.setTop (mkF m 25 #[.val (.int c0)] [(.ref a)]))
  refine Runs.ret X5_ hlk (v := (some (.ref a))) (fun h => by rw [hret] at h; cases h) (by decide) (by decide) ?_ (fun fs hr => retOut X5_ hx hret rfl (Or.inr (Or.inr (Or.inr (Or.inr ⟨rfl, rfl, rfl⟩)))) (hb hby d_jdk_42_method_139_25) hr)
  exact ⟨a, b, kb, rfl, N5_, K, sz_a, sz_b, ne_a_b, E_a, F_a_coder, F_a_value, V_b⟩
def Q_rmACI (Z : State) (a : Addr)  (h0 : Heap) (n0 : Nat) : Option Value → Heap → List Loc → Prop := (fun v h L => v = none ∧ Fr n0 L ∧ h = h0)
theorem pn_java_util_AbstractCollection : plainName "java/util/AbstractCollection" = true := by first | (simp [plainName, overriddenIn]; done) | decide +kernel
theorem ef_jdk_22_method_1_R (m : MethodId) (x0 : Addr)  : entryFrame m #[(.ref x0)] 1 = mkF m 0 #[.val (.ref x0)] [] := by first | (simp [entryFrame, mkF, argsToLocals, Value.category]; done) | rfl
theorem d_jdk_22_method_1_0 : decode jdk_22_method_1_code 0 = .ok (.aload_n 0, 1) := by decide +kernel
theorem d_jdk_22_method_1_1 : decode jdk_22_method_1_code 1 = .ok (.invokespecial 1, 3) := by decide +kernel
theorem d_jdk_22_method_1_4 : decode jdk_22_method_1_code 4 = .ok (.return_, 1) := by decide +kernel
set_option maxRecDepth 65536 in
set_option maxHeartbeats 40000000 in
theorem rmACI (l : Launch) (Z : State) (a0 : Array Value) (hw : ∀ d ∈ tables_1, d.before a0 Z = true) (ws : List Jvm.Cond) (a : Addr)  (h0 : Heap) (n0 : Nat) (Z0 : n0 ≤ h0.size)  :
    MetFree l (⟨"java/util/AbstractCollection", "<init>", "()V"⟩ : MethodName) (head1 (Jvm.Cond.code (⟨"java/util/AbstractCollection", "<init>", "()V"⟩ : MethodName) jdk_22_method_1_code 1 none :: ws) ({ frames := 1, cells := 0, slots := 0, locals := 12 } : Room)) (fun ar_ U => ar_ = #[(.ref a)] ∧ Z.Warmed39 U.vm ∧ U.heap = h0) (fun _ _ _ _ _ => True) (fun _ U o U' => Phi U (Q_rmACI Z a h0 n0) ({ frames := 1, cells := 0, slots := 0, locals := 12 } : Room).cells ({ frames := 1, cells := 0, slots := 0, locals := 12 } : Room).slots o U') := by
  refine MetFree.of_bodySF (plainFor_of_name pn_java_util_AbstractCollection) hisR ?_
  intro p e s m args below meth c s₁ Bd hml0 hP hK
  obtain ⟨rfl, hZ, hh⟩ := hP
  have hx := Bd.exec
  have hby := Bd.bytes
  have hlk := Bd.notSynchronized
  have hml : c.maxLocals = 1 := hml0
  have hown : s.vm.findClass "java/util/AbstractCollection" = some m.cls := findClass_of_methodNamed Bd.named
  have hown0 := hown
  have hnm := (name_of_methodNamed Bd.named Bd.method).1
  have hret := Bd.returns
  have X0 : Stand p l e ({ frames := 1, cells := 0, slots := 0, locals := 12 } : Room) s m #[(.ref a)] below meth c s₁ [] 0 0 := Stand.of_body Bd
  have e0 : s₁.heap = h0 := by rw [← hh, Bd.state]; rfl
  have N0 := Fr.nil n0
  have sz := Z0
  have K := Keep.refl h0 []
  show Runs p.tables e below (Phi s (Q_rmACI Z a h0 n0) ({ frames := 1, cells := 0, slots := 0, locals := 12 } : Room).cells ({ frames := 1, cells := 0, slots := 0, locals := 12 } : Room).slots) _
  refine Runs.st (fun t' k' => castTop (ef_jdk_22_method_1_R m a ) k') ?_
  show Runs p.tables e below _ (s₁.setTop (mkF m 0 #[.val (.ref a)] []))
  refine Runs.st (fun t' k' => XS.aloadN X0.here hx rfl (hb hby d_jdk_22_method_1_0) rfl rfl k') ?_
  show Runs p.tables e below _ (s₁.setTop (mkF m 1 #[.val (.ref a)] [(.ref a)]))
  obtain ⟨T1_, X1_, e1_, st1_⟩ := initO X0 hx hZ hown (hw _ (List.mem_of_getElem? (i := 62) rfl)) (hw _ (List.mem_of_getElem? (i := 12) rfl)) (hw _ (List.mem_of_getElem? (i := 13) rfl)) e0 (g := (mkF m 1 #[.val (.ref a)] [(.ref a)])) rfl (by rw [hml]; rfl) rfl (hb hby d_jdk_22_method_1_1) (by decide) (W := 0) (by show 2 * 0 + _ ≤ _; exact Nat.le_of_eq rfl) (by decide)
  refine Runs.st (st1_) ?_
  show Runs p.tables e below _ (T1_.setTop (mkF m 4 #[.val (.ref a)] []))
  refine Runs.ret X1_ hlk (v := none) (fun _ => rfl) (by decide) (by decide) ?_ (fun fs hr => X1_.returnOut hx hret (hb hby d_jdk_22_method_1_4) hr)
  try rw [e1_]
  exact ⟨rfl, N0, rfl⟩
def Q_rmALI (Z : State) (a : Addr)  (h0 : Heap) (n0 : Nat) : Option Value → Heap → List Loc → Prop := (fun v h L => v = none ∧ Fr n0 L ∧ Keep h0 h [a] ∧ Exa Z h a "java/util/ArrayList" ∧ Fld Z h a "java/util/AbstractList" "modCount" "I" (.int (0 : Int32)) ∧ ∀ {O nm d : String} {w_ : Value}, Fld Z h0 a O nm d w_ → Jvm.RoadKit.slotOf Z O nm d ≠ Jvm.RoadKit.slotOf Z "java/util/AbstractList" "modCount" "I" → Fld Z h a O nm d w_)
theorem pn_java_util_AbstractList : plainName "java/util/AbstractList" = true := by first | (simp [plainName, overriddenIn]; done) | decide +kernel
theorem ef_jdk_39_method_1_R (m : MethodId) (x0 : Addr)  : entryFrame m #[(.ref x0)] 1 = mkF m 0 #[.val (.ref x0)] [] := by first | (simp [entryFrame, mkF, argsToLocals, Value.category]; done) | rfl
theorem d_jdk_39_method_1_0 : decode jdk_39_method_1_code 0 = .ok (.aload_n 0, 1) := by decide +kernel
theorem pd__28_29V : parseMethodDescriptor "()V" = some ⟨[], none⟩ := by decide +kernel
theorem d_jdk_39_method_1_1 : decode jdk_39_method_1_code 1 = .ok (.invokespecial 1, 3) := by decide +kernel
theorem d_jdk_39_method_1_4 : decode jdk_39_method_1_code 4 = .ok (.aload_n 0, 1) := by decide +kernel
theorem d_jdk_39_method_1_5 : decode jdk_39_method_1_code 5 = .ok (.iconst 0, 1) := by decide +kernel
theorem d_jdk_39_method_1_6 : decode jdk_39_method_1_code 6 = .ok (.putfield 7, 3) := by decide +kernel
theorem d_jdk_39_method_1_9 : decode jdk_39_method_1_code 9 = .ok (.return_, 1) := by decide +kernel
set_option maxRecDepth 65536 in
set_option maxHeartbeats 40000000 in
theorem rmALI (l : Launch) (Z : State) (a0 : Array Value) (hw : ∀ d ∈ tables_1, d.before a0 Z = true) (ws : List Jvm.Cond) (a : Addr)  (h0 : Heap) (n0 : Nat) (Z0 : n0 ≤ h0.size) (E_a : Exa Z h0 a "java/util/ArrayList") (F_m : Fld Z h0 a "java/util/AbstractList" "modCount" "I" (.int (0 : Int32))) (g_a : n0 ≤ a) :
    MetFree l (⟨"java/util/AbstractList", "<init>", "()V"⟩ : MethodName) (head1 (Jvm.Cond.code (⟨"java/util/AbstractList", "<init>", "()V"⟩ : MethodName) jdk_39_method_1_code 1 none :: ws) ({ frames := 2, cells := 0, slots := 0, locals := 24 } : Room)) (fun ar_ U => ar_ = #[(.ref a)] ∧ Z.Warmed39 U.vm ∧ U.heap = h0) (fun _ _ _ _ _ => True) (fun _ U o U' => Phi U (Q_rmALI Z a h0 n0) ({ frames := 2, cells := 0, slots := 0, locals := 24 } : Room).cells ({ frames := 2, cells := 0, slots := 0, locals := 24 } : Room).slots o U') := by
  refine MetFree.of_bodySF (plainFor_of_name pn_java_util_AbstractList) hisR ?_
  intro p e s m args below meth c s₁ Bd hml0 hP hK
  obtain ⟨rfl, hZ, hh⟩ := hP
  have hx := Bd.exec
  have hby := Bd.bytes
  have hlk := Bd.notSynchronized
  have hml : c.maxLocals = 1 := hml0
  have hown : s.vm.findClass "java/util/AbstractList" = some m.cls := findClass_of_methodNamed Bd.named
  have hown0 := hown
  have hnm := (name_of_methodNamed Bd.named Bd.method).1
  have hret := Bd.returns
  have X0 : Stand p l e ({ frames := 2, cells := 0, slots := 0, locals := 24 } : Room) s m #[(.ref a)] below meth c s₁ [] 0 0 := Stand.of_body Bd
  have e0 : s₁.heap = h0 := by rw [← hh, Bd.state]; rfl
  have N0 := Fr.nil n0
  have sz := Z0
  have K := Keep.refl h0 [a]
  show Runs p.tables e below (Phi s (Q_rmALI Z a h0 n0) ({ frames := 2, cells := 0, slots := 0, locals := 24 } : Room).cells ({ frames := 2, cells := 0, slots := 0, locals := 24 } : Room).slots) _
  refine Runs.st (fun t' k' => castTop (ef_jdk_39_method_1_R m a ) k') ?_
  show Runs p.tables e below _ (s₁.setTop (mkF m 0 #[.val (.ref a)] []))
  refine Runs.st (fun t' k' => XS.aloadN X0.here hx rfl (hb hby d_jdk_39_method_1_0) rfl rfl k') ?_
  show Runs p.tables e below _ (s₁.setTop (mkF m 1 #[.val (.ref a)] [(.ref a)]))
  obtain ⟨_, _, ⟨T1_, L1_, k1_, n1_⟩, -, X1_, ⟨Lc1_, hQ1_, l1_, y1_, z1_⟩, st1_⟩ := X0.specialBack hx (y := (⟨"java/util/AbstractCollection", "<init>", "()V"⟩ : MethodName)) rfl hown (mvT hZ (hw _ (List.mem_of_getElem? (i := 56) rfl))) (mvT hZ (hw _ (List.mem_of_getElem? (i := 57) rfl))) (mvT hZ (hw _ (List.mem_of_getElem? (i := 61) rfl))) (by decide) (backOf (W := 0) (rmACI l Z a0 hw [] a h0 n0 sz) hZ (hw _ (List.mem_of_getElem? (i := 61) rfl)) (hw _ (List.mem_of_getElem? (i := 60) rfl)) (by decide) (by decide)) (g := (mkF m 1 #[.val (.ref a)] [(.ref a)])) rfl (by rw [hml]; rfl) (Steps.refl _) (a := a) (argsL := []) (rest := []) (lenOf pd__28_29V rfl) rfl (by show 2 * 0 + _ ≤ _; exact Nat.le_of_eq rfl) (hb hby d_jdk_39_method_1_1) (fun _ _ => ⟨rfl, e0, (by decide : 0 + 0 ≤ _), (by decide : 0 + 0 ≤ _)⟩)
  dsimp only [Pt.U, Pt.locs, Pt.cells, Pt.slots] at X1_ l1_ y1_ z1_ st1_ hQ1_
  subst l1_ y1_ z1_
  obtain ⟨rfl, N1_q, e1_⟩ := hQ1_
  have N1_ := Fr.app N0 N1_q
  refine Runs.tr st1_ ?_
  replace X1_ := wider X1_ (c' := 0) (s' := 0) (by decide) (by decide)
  show Runs p.tables e below _ (T1_.setTop (mkF m 4 #[.val (.ref a)] []))
  refine Runs.st (fun t' k' => XS.aloadN X1_.here hx rfl (hb hby d_jdk_39_method_1_4) rfl rfl k') ?_
  show Runs p.tables e below _ (T1_.setTop (mkF m 5 #[.val (.ref a)] [(.ref a)]))
  refine Runs.st (fun t' k' => XS.iconst X1_.here hx rfl (hb hby d_jdk_39_method_1_5) k') ?_
  show Runs p.tables e below _ (T1_.setTop (mkF m 6 #[.val (.ref a)] [(.int (0 : Int32)), (.ref a)]))
  obtain ⟨T2_, h2_, X2_, e2_, W2_, st2_⟩ := putF X1_ hx hZ hown (host := "") (Or.inl (hw _ (List.mem_of_getElem? (i := 63) rfl))) Via.refl e1_ F_m E_a (Or.inl (hw _ (List.mem_of_getElem? (i := 64) rfl))) (hw _ (List.mem_of_getElem? (i := 45) rfl)) (ty := .int) (by decide) rfl rfl (g := (mkF m 6 #[.val (.ref a)] [(.int (0 : Int32)), (.ref a)])) rfl rfl (hb hby d_jdk_39_method_1_6)
  refine Runs.st (st2_) ?_
  replace F_m := F_m.same W2_
  replace E_a := Jvm.RoadKit.Exa.wr W2_ E_a
  replace sz := Nat.le_trans sz (Keep.of_wr W2_).1
  have N2_ := Fr.snoc X2_ N1_ g_a
  replace K := K.wr W2_ (Or.inl (List.mem_of_getElem? (i := 0) rfl))
  show Runs p.tables e below _ (T2_.setTop (mkF m 9 #[.val (.ref a)] []))
  refine Runs.ret X2_ hlk (v := none) (fun _ => rfl) (by decide) (by decide) ?_ (fun fs hr => X2_.returnOut hx hret (hb hby d_jdk_39_method_1_9) hr)
  try rw [e2_]
  exact ⟨rfl, N2_, K, E_a, F_m, fun F q => F.other W2_ (Or.inr q)⟩
def Q_rmLI (Z : State) (a : Addr) (d : Addr) (h0 : Heap) (n0 : Nat) : Option Value → Heap → List Loc → Prop := (fun v h L => v = none ∧ Fr n0 L ∧ Keep h0 h [a] ∧ Exa Z h a "java/util/ArrayList" ∧ Fld Z h a "java/util/AbstractList" "modCount" "I" (.int (0 : Int32)) ∧ Fld Z h a "java/util/ArrayList" "elementData" "[Ljava/lang/Object;" (.ref d) ∧ Fld Z h a "java/util/ArrayList" "size" "I" (.int (0 : Int32)))
theorem pn_java_util_ArrayList : plainName "java/util/ArrayList" = true := by first | (simp [plainName, overriddenIn]; done) | decide +kernel
theorem ef_jdk_38_method_2_R (m : MethodId) (x0 : Addr)  : entryFrame m #[(.ref x0)] 1 = mkF m 0 #[.val (.ref x0)] [] := by first | (simp [entryFrame, mkF, argsToLocals, Value.category]; done) | rfl
theorem d_jdk_38_method_2_0 : decode jdk_38_method_2_code 0 = .ok (.aload_n 0, 1) := by decide +kernel
theorem d_jdk_38_method_2_1 : decode jdk_38_method_2_code 1 = .ok (.invokespecial 1, 3) := by decide +kernel
theorem d_jdk_38_method_2_4 : decode jdk_38_method_2_code 4 = .ok (.aload_n 0, 1) := by decide +kernel
theorem d_jdk_38_method_2_5 : decode jdk_38_method_2_code 5 = .ok (.getstatic 39, 3) := by decide +kernel
theorem d_jdk_38_method_2_8 : decode jdk_38_method_2_code 8 = .ok (.putfield 9, 3) := by decide +kernel
theorem d_jdk_38_method_2_11 : decode jdk_38_method_2_code 11 = .ok (.return_, 1) := by decide +kernel
set_option maxRecDepth 65536 in
set_option maxHeartbeats 40000000 in
theorem rmLI (l : Launch) (Z : State) (a0 : Array Value) (hw : ∀ d ∈ tables_1, d.before a0 Z = true) (ws : List Jvm.Cond) (a : Addr) (d : Addr) (h0 : Heap) (n0 : Nat) (Z0 : n0 ≤ h0.size) (E_a : Exa Z h0 a "java/util/ArrayList") (F_m : Fld Z h0 a "java/util/AbstractList" "modCount" "I" (.int (0 : Int32))) (F_e : Fld Z h0 a "java/util/ArrayList" "elementData" "[Ljava/lang/Object;" .null) (F_s : Fld Z h0 a "java/util/ArrayList" "size" "I" (.int (0 : Int32))) (g_a : n0 ≤ a) (Sd : Sta Z Z.heap "java/util/ArrayList" "DEFAULTCAPACITY_EMPTY_ELEMENTDATA" "[Ljava/lang/Object;" (.ref d)) (old : Old Z n0 h0) :
    MetFree l (⟨"java/util/ArrayList", "<init>", "()V"⟩ : MethodName) (head1 (Jvm.Cond.code (⟨"java/util/ArrayList", "<init>", "()V"⟩ : MethodName) jdk_38_method_2_code 1 none :: ws) ({ frames := 3, cells := 0, slots := 0, locals := 36 } : Room)) (fun ar_ U => ar_ = #[(.ref a)] ∧ Z.Warmed39 U.vm ∧ U.heap = h0) (fun _ _ _ _ _ => True) (fun _ U o U' => Phi U (Q_rmLI Z a d h0 n0) ({ frames := 3, cells := 0, slots := 0, locals := 36 } : Room).cells ({ frames := 3, cells := 0, slots := 0, locals := 36 } : Room).slots o U') := by
  refine MetFree.of_bodySF (plainFor_of_name pn_java_util_ArrayList) hisR ?_
  intro p e s m args below meth c s₁ Bd hml0 hP hK
  obtain ⟨rfl, hZ, hh⟩ := hP
  have hx := Bd.exec
  have hby := Bd.bytes
  have hlk := Bd.notSynchronized
  have hml : c.maxLocals = 1 := hml0
  have hown : s.vm.findClass "java/util/ArrayList" = some m.cls := findClass_of_methodNamed Bd.named
  have hown0 := hown
  have hnm := (name_of_methodNamed Bd.named Bd.method).1
  have hret := Bd.returns
  have X0 : Stand p l e ({ frames := 3, cells := 0, slots := 0, locals := 36 } : Room) s m #[(.ref a)] below meth c s₁ [] 0 0 := Stand.of_body Bd
  have e0 : s₁.heap = h0 := by rw [← hh, Bd.state]; rfl
  have N0 := Fr.nil n0
  have sz := Z0
  have K := Keep.refl h0 [a]
  show Runs p.tables e below (Phi s (Q_rmLI Z a d h0 n0) ({ frames := 3, cells := 0, slots := 0, locals := 36 } : Room).cells ({ frames := 3, cells := 0, slots := 0, locals := 36 } : Room).slots) _
  refine Runs.st (fun t' k' => castTop (ef_jdk_38_method_2_R m a ) k') ?_
  show Runs p.tables e below _ (s₁.setTop (mkF m 0 #[.val (.ref a)] []))
  refine Runs.st (fun t' k' => XS.aloadN X0.here hx rfl (hb hby d_jdk_38_method_2_0) rfl rfl k') ?_
  show Runs p.tables e below _ (s₁.setTop (mkF m 1 #[.val (.ref a)] [(.ref a)]))
  have qe := (slot_ne (Or.inl (hw _ (List.mem_of_getElem? (i := 67) rfl))) (Or.inl (hw _ (List.mem_of_getElem? (i := 64) rfl))) (by decide) (t := (.array (.object "java/lang/Object"))) (t' := .int) (by decide) (by decide))
  have qs := (slot_ne (Or.inl (hw _ (List.mem_of_getElem? (i := 76) rfl))) (Or.inl (hw _ (List.mem_of_getElem? (i := 64) rfl))) (by decide) (t := .int) (t' := .int) (by decide) (by decide))
  obtain ⟨_, _, ⟨T1_, L1_, k1_, n1_⟩, -, X1_, ⟨Lc1_, hQ1_, l1_, y1_, z1_⟩, st1_⟩ := X0.specialBack hx (y := (⟨"java/util/AbstractList", "<init>", "()V"⟩ : MethodName)) rfl hown (mvT hZ (hw _ (List.mem_of_getElem? (i := 50) rfl))) (mvT hZ (hw _ (List.mem_of_getElem? (i := 51) rfl))) (mvT hZ (hw _ (List.mem_of_getElem? (i := 55) rfl))) (by decide) (backOf (W := 0) (rmALI l Z a0 hw [] a h0 n0 sz E_a F_m g_a) hZ (hw _ (List.mem_of_getElem? (i := 55) rfl)) (hw _ (List.mem_of_getElem? (i := 54) rfl)) (by decide) (by decide)) (g := (mkF m 1 #[.val (.ref a)] [(.ref a)])) rfl (by rw [hml]; rfl) (Steps.refl _) (a := a) (argsL := []) (rest := []) (lenOf pd__28_29V rfl) rfl (by show 2 * 0 + _ ≤ _; exact Nat.le_of_eq rfl) (hb hby d_jdk_38_method_2_1) (fun _ _ => ⟨rfl, e0, (by decide : 0 + 0 ≤ _), (by decide : 0 + 0 ≤ _)⟩)
  dsimp only [Pt.U, Pt.locs, Pt.cells, Pt.slots] at X1_ l1_ y1_ z1_ st1_ hQ1_
  subst l1_ y1_ z1_
  obtain ⟨rfl, N1_q, K1_, E_a, F_m, hother⟩ := hQ1_
  have N1_ := Fr.app N0 N1_q
  refine Runs.tr st1_ ?_
  replace X1_ := wider X1_ (c' := 0) (s' := 0) (by decide) (by decide)
  replace old := old.keep K1_ (allS g_a all0)
  replace sz := Nat.le_trans sz K1_.1
  replace K := K.trans K1_ (allS (Or.inl (List.mem_of_getElem? (i := 0) rfl)) all0)
  show Runs p.tables e below _ (T1_.setTop (mkF m 4 #[.val (.ref a)] []))
  replace F_e := hother F_e qe
  replace F_s := hother F_s qs
  refine Runs.st (fun t' k' => XS.aloadN X1_.here hx rfl (hb hby d_jdk_38_method_2_4) rfl rfl k') ?_
  show Runs p.tables e below _ (T1_.setTop (mkF m 5 #[.val (.ref a)] [(.ref a)]))
  obtain ⟨T2_, X2_, e2_, st2_⟩ := getS2 X1_ hx hZ hown (host := "") (Or.inl (hw _ (List.mem_of_getElem? (i := 65) rfl))) Via.refl rfl (Sd.ext old.2) (g := (mkF m 5 #[.val (.ref a)] [(.ref a)])) rfl (hb hby d_jdk_38_method_2_5)
  refine Runs.st (st2_) ?_
  show Runs p.tables e below _ (T2_.setTop (mkF m 8 #[.val (.ref a)] [(.ref d), (.ref a)]))
  obtain ⟨T3_, h3_, X3_, e3_, W3_, st3_⟩ := putF X2_ hx hZ hown (host := "") (Or.inl (hw _ (List.mem_of_getElem? (i := 66) rfl))) Via.refl e2_ F_e E_a (Or.inl (hw _ (List.mem_of_getElem? (i := 67) rfl))) (hw _ (List.mem_of_getElem? (i := 45) rfl)) (ty := (.array (.object "java/lang/Object"))) (by decide) rfl rfl (g := (mkF m 8 #[.val (.ref a)] [(.ref d), (.ref a)])) rfl rfl (hb hby d_jdk_38_method_2_8)
  refine Runs.st (st3_) ?_
  replace F_e := F_e.same W3_
  replace old := old.wr W3_ g_a
  replace E_a := Jvm.RoadKit.Exa.wr W3_ E_a
  replace F_m := F_m.other W3_ (Or.inr (slot_ne (Or.inl (hw _ (List.mem_of_getElem? (i := 64) rfl))) (Or.inl (hw _ (List.mem_of_getElem? (i := 67) rfl))) (by decide) (t := .int) (t' := (.array (.object "java/lang/Object"))) (by decide) (by decide)))
  replace F_s := F_s.other W3_ (Or.inr (slot_ne (Or.inl (hw _ (List.mem_of_getElem? (i := 76) rfl))) (Or.inl (hw _ (List.mem_of_getElem? (i := 67) rfl))) (by decide) (t := .int) (t' := (.array (.object "java/lang/Object"))) (by decide) (by decide)))
  replace sz := Nat.le_trans sz (Keep.of_wr W3_).1
  have N3_ := Fr.snoc X3_ N1_ g_a
  replace K := K.wr W3_ (Or.inl (List.mem_of_getElem? (i := 0) rfl))
  show Runs p.tables e below _ (T3_.setTop (mkF m 11 #[.val (.ref a)] []))
  refine Runs.ret X3_ hlk (v := none) (fun _ => rfl) (by decide) (by decide) ?_ (fun fs hr => X3_.returnOut hx hret (hb hby d_jdk_38_method_2_11) hr)
  try rw [e3_]
  exact ⟨rfl, N3_, K, E_a, F_m, F_e, F_s⟩
def Q_rmMaxI (Z : State) (p1 : Int32) (q1 : Int32) (r : Int32) (h0 : Heap) (n0 : Nat) : Option Value → Heap → List Loc → Prop := (fun v h L => v = some (.int r) ∧ Fr n0 L ∧ h = h0)
theorem ef_jdk_29_method_65_II (m : MethodId) (x0 : Int32) (x1 : Int32)  : entryFrame m #[(.int x0), (.int x1)] 2 = mkF m 0 #[.val (.int x0), .val (.int x1)] [] := by first | (simp [entryFrame, mkF, argsToLocals, Value.category]; done) | rfl
theorem d_jdk_29_method_65_0 : decode jdk_29_method_65_code 0 = .ok (.iload_n 0, 1) := by decide +kernel
theorem d_jdk_29_method_65_1 : decode jdk_29_method_65_code 1 = .ok (.iload_n 1, 1) := by decide +kernel
theorem d_jdk_29_method_65_2 : decode jdk_29_method_65_code 2 = .ok (.if_icmp .lt 7, 3) := by decide +kernel
theorem d_jdk_29_method_65_9 : decode jdk_29_method_65_code 9 = .ok (.iload_n 1, 1) := by decide +kernel
theorem d_jdk_29_method_65_10 : decode jdk_29_method_65_code 10 = .ok (.ireturn, 1) := by decide +kernel
theorem d_jdk_29_method_65_5 : decode jdk_29_method_65_code 5 = .ok (.iload_n 0, 1) := by decide +kernel
theorem d_jdk_29_method_65_6 : decode jdk_29_method_65_code 6 = .ok (.goto 4, 3) := by decide +kernel
set_option maxRecDepth 65536 in
set_option maxHeartbeats 40000000 in
theorem rmMaxI (l : Launch) (Z : State) (a0 : Array Value) (hw : ∀ d ∈ tables_1, d.before a0 Z = true) (ws : List Jvm.Cond) (p1 : Int32) (q1 : Int32) (r : Int32) (h0 : Heap) (n0 : Nat) (Z0 : n0 ≤ h0.size) (hr : r = if p1 < q1 then q1 else p1) :
    MetFree l (⟨"java/lang/Math", "max", "(II)I"⟩ : MethodName) (head1 (Jvm.Cond.code (⟨"java/lang/Math", "max", "(II)I"⟩ : MethodName) jdk_29_method_65_code 2 (some .int) :: ws) ({ frames := 0, cells := 0, slots := 0, locals := 0 } : Room)) (fun ar_ U => ar_ = #[(.int p1), (.int q1)] ∧ Z.Warmed39 U.vm ∧ U.heap = h0) (fun _ _ _ _ _ => True) (fun _ U o U' => Phi U (Q_rmMaxI Z p1 q1 r h0 n0) ({ frames := 0, cells := 0, slots := 0, locals := 0 } : Room).cells ({ frames := 0, cells := 0, slots := 0, locals := 0 } : Room).slots o U') := by
  refine MetFree.of_bodySF (Jvm.Free.JP.mathPlain rfl (by decide +kernel)) hisR ?_
  intro p e s m args below meth c s₁ Bd hml0 hP hK
  obtain ⟨rfl, hZ, hh⟩ := hP
  have hx := Bd.exec
  have hby := Bd.bytes
  have hlk := Bd.notSynchronized
  have hml : c.maxLocals = 2 := hml0
  have hown : s.vm.findClass "java/lang/Math" = some m.cls := findClass_of_methodNamed Bd.named
  have hown0 := hown
  have hnm := (name_of_methodNamed Bd.named Bd.method).1
  have hret := Bd.returns
  have X0 : Stand p l e ({ frames := 0, cells := 0, slots := 0, locals := 0 } : Room) s m #[(.int p1), (.int q1)] below meth c s₁ [] 0 0 := Stand.of_body Bd
  have e0 : s₁.heap = h0 := by rw [← hh, Bd.state]; rfl
  have N0 := Fr.nil n0
  have sz := Z0
  have K := Keep.refl h0 []
  show Runs p.tables e below (Phi s (Q_rmMaxI Z p1 q1 r h0 n0) ({ frames := 0, cells := 0, slots := 0, locals := 0 } : Room).cells ({ frames := 0, cells := 0, slots := 0, locals := 0 } : Room).slots) _
  refine Runs.st (fun t' k' => castTop (ef_jdk_29_method_65_II m p1 q1 ) k') ?_
  show Runs p.tables e below _ (s₁.setTop (mkF m 0 #[.val (.int p1), .val (.int q1)] []))
  refine Runs.st (fun t' k' => XS.iloadN X0.here hx rfl (hb hby d_jdk_29_method_65_0) rfl k') ?_
  show Runs p.tables e below _ (s₁.setTop (mkF m 1 #[.val (.int p1), .val (.int q1)] [(.int p1)]))
  refine Runs.st (fun t' k' => XS.iloadN X0.here hx rfl (hb hby d_jdk_29_method_65_1) rfl k') ?_
  show Runs p.tables e below _ (s₁.setTop (mkF m 2 #[.val (.int p1), .val (.int q1)] [(.int q1), (.int p1)]))
  by_cases hc : p1 < q1
  · skip
    refine Runs.st (fun t' k' => XS.icmpYes X0.here hx rfl (pc0 := 2) (pc' := 9) rfl (hb hby d_jdk_29_method_65_2) rfl (tlt hc).1 (by decide) (by decide) k') ?_
    show Runs p.tables e below _ (s₁.setTop (mkF m 9 #[.val (.int p1), .val (.int q1)] []))
    refine Runs.st (fun t' k' => XS.iloadN X0.here hx rfl (hb hby d_jdk_29_method_65_9) rfl k') ?_
    show Runs p.tables e below _ (s₁.setTop (mkF m 10 #[.val (.int p1), .val (.int q1)] [(.int q1)]))
    refine Runs.ret X0 hlk (v := (some (.int q1))) (fun h => by rw [hret] at h; cases h) (by decide) (by decide) ?_ (fun fs hr => retI X0 hx hret (hb hby d_jdk_29_method_65_10) hr)
    try rw [e0]
    exact ⟨congrArg (fun z => some (Value.int z)) (hr.trans (if_pos hc)).symm, N0, rfl⟩
  · skip
    refine Runs.st (fun t' k' => XS.icmpNo X0.here hx rfl (hb hby d_jdk_29_method_65_2) rfl (flt hc).1 k') ?_
    show Runs p.tables e below _ (s₁.setTop (mkF m 5 #[.val (.int p1), .val (.int q1)] []))
    refine Runs.st (fun t' k' => XS.iloadN X0.here hx rfl (hb hby d_jdk_29_method_65_5) rfl k') ?_
    show Runs p.tables e below _ (s₁.setTop (mkF m 6 #[.val (.int p1), .val (.int q1)] [(.int p1)]))
    refine Runs.st (fun t' k' => XS.goto X0.here hx rfl (pc0 := 6) (pc' := 10) rfl (hb hby d_jdk_29_method_65_6) (by decide) (by decide) k') ?_
    show Runs p.tables e below _ (s₁.setTop (mkF m 10 #[.val (.int p1), .val (.int q1)] [(.int p1)]))
    refine Runs.ret X0 hlk (v := (some (.int p1))) (fun h => by rw [hret] at h; cases h) (by decide) (by decide) ?_ (fun fs hr => retI X0 hx hret (hb hby d_jdk_29_method_65_10) hr)
    try rw [e0]
    exact ⟨congrArg (fun z => some (Value.int z)) (hr.trans (if_neg hc)).symm, N0, rfl⟩
def Q_rmGr (Z : State) (a : Addr) (d : Addr) (kd : ClassId) (m_ : Int32) (h0 : Heap) (n0 : Nat) : Option Value → Heap → List Loc → Prop := (fun v h L => ∃ b kb, v = some (.ref b) ∧ Fr n0 L ∧ Keep h0 h [a] ∧ h0.size ≤ b ∧ Exa Z h a "java/util/ArrayList" ∧ Fld Z h a "java/util/ArrayList" "elementData" "[Ljava/lang/Object;" (.ref b) ∧ Fld Z h a "java/util/ArrayList" "size" "I" (.int (0 : Int32)) ∧ Fld Z h a "java/util/AbstractList" "modCount" "I" (.int m_) ∧ Arv Z h b kb (.object "java/lang/Object") (10 : Int32) [.null, .null, .null, .null, .null, .null, .null, .null, .null, .null] .null ∧ Ovr Z kb "java/lang/Object")
theorem ef_jdk_38_method_6_RI (m : MethodId) (x0 : Addr) (x1 : Int32)  : entryFrame m #[(.ref x0), (.int x1)] 4 = mkF m 0 #[.val (.ref x0), .val (.int x1), .unset, .unset] [] := by first | (simp [entryFrame, mkF, argsToLocals, Value.category]; done) | rfl
theorem d_jdk_38_method_6_0 : decode jdk_38_method_6_code 0 = .ok (.aload_n 0, 1) := by decide +kernel
theorem d_jdk_38_method_6_1 : decode jdk_38_method_6_code 1 = .ok (.getfield 9, 3) := by decide +kernel
theorem d_jdk_38_method_6_4 : decode jdk_38_method_6_code 4 = .ok (.arraylength, 1) := by decide +kernel
theorem d_jdk_38_method_6_5 : decode jdk_38_method_6_code 5 = .ok (.istore_n 2, 1) := by decide +kernel
theorem d_jdk_38_method_6_6 : decode jdk_38_method_6_code 6 = .ok (.iload_n 2, 1) := by decide +kernel
theorem d_jdk_38_method_6_7 : decode jdk_38_method_6_code 7 = .ok (.ifCond .gt 13, 3) := by decide +kernel
theorem d_jdk_38_method_6_10 : decode jdk_38_method_6_code 10 = .ok (.aload_n 0, 1) := by decide +kernel
theorem d_jdk_38_method_6_11 : decode jdk_38_method_6_code 11 = .ok (.getfield 9, 3) := by decide +kernel
theorem d_jdk_38_method_6_14 : decode jdk_38_method_6_code 14 = .ok (.getstatic 39, 3) := by decide +kernel
theorem d_jdk_38_method_6_17 : decode jdk_38_method_6_code 17 = .ok (.if_acmp .eq 28, 3) := by decide +kernel
theorem d_jdk_38_method_6_45 : decode jdk_38_method_6_code 45 = .ok (.aload_n 0, 1) := by decide +kernel
theorem d_jdk_38_method_6_46 : decode jdk_38_method_6_code 46 = .ok (.bipush 10, 2) := by decide +kernel
theorem d_jdk_38_method_6_48 : decode jdk_38_method_6_code 48 = .ok (.iload_n 1, 1) := by decide +kernel
theorem pd__28II_29I : parseMethodDescriptor "(II)I" = some ⟨[.int, .int], some .int⟩ := by decide +kernel
theorem d_jdk_38_method_6_49 : decode jdk_38_method_6_code 49 = .ok (.invokestatic 79, 3) := by decide +kernel
theorem d_jdk_38_method_6_52 : decode jdk_38_method_6_code 52 = .ok (.anewarray 7, 3) := by decide +kernel
theorem d_jdk_38_method_6_55 : decode jdk_38_method_6_code 55 = .ok (.dup_x1, 1) := by decide +kernel
theorem d_jdk_38_method_6_56 : decode jdk_38_method_6_code 56 = .ok (.putfield 9, 3) := by decide +kernel
theorem d_jdk_38_method_6_59 : decode jdk_38_method_6_code 59 = .ok (.areturn, 1) := by decide +kernel
set_option maxRecDepth 65536 in
set_option maxHeartbeats 40000000 in
theorem rmGr (l : Launch) (Z : State) (a0 : Array Value) (hw : ∀ d ∈ tables_1, d.before a0 Z = true) (ws : List Jvm.Cond) (a : Addr) (d : Addr) (kd : ClassId) (m_ : Int32) (h0 : Heap) (n0 : Nat) (Z0 : n0 ≤ h0.size) (E_a : Exa Z h0 a "java/util/ArrayList") (F_e : Fld Z h0 a "java/util/ArrayList" "elementData" "[Ljava/lang/Object;" (.ref d)) (F_s : Fld Z h0 a "java/util/ArrayList" "size" "I" (.int (0 : Int32))) (F_m : Fld Z h0 a "java/util/AbstractList" "modCount" "I" (.int m_)) (g_a : n0 ≤ a) (Sd : Sta Z Z.heap "java/util/ArrayList" "DEFAULTCAPACITY_EMPTY_ELEMENTDATA" "[Ljava/lang/Object;" (.ref d)) (V_d : Arv Z Z.heap d kd (.object "java/lang/Object") (0 : Int32) [] .null) (old : Old Z n0 h0) :
    MetFree l (⟨"java/util/ArrayList", "grow", "(I)[Ljava/lang/Object;"⟩ : MethodName) (head1 (Jvm.Cond.code (⟨"java/util/ArrayList", "grow", "(I)[Ljava/lang/Object;"⟩ : MethodName) jdk_38_method_6_code 4 (some (.array (.object "java/lang/Object"))) :: ws) ({ frames := 1, cells := 1, slots := 10, locals := 14 } : Room)) (fun ar_ U => ar_ = #[(.ref a), (.int (1 : Int32))] ∧ Z.Warmed39 U.vm ∧ U.heap = h0) (fun _ _ _ _ _ => True) (fun _ U o U' => Phi U (Q_rmGr Z a d kd m_ h0 n0) ({ frames := 1, cells := 1, slots := 10, locals := 14 } : Room).cells ({ frames := 1, cells := 1, slots := 10, locals := 14 } : Room).slots o U') := by
  refine MetFree.of_bodySF (plainFor_of_name pn_java_util_ArrayList) hisR ?_
  intro p e s m args below meth c s₁ Bd hml0 hP hK
  obtain ⟨rfl, hZ, hh⟩ := hP
  have hx := Bd.exec
  have hby := Bd.bytes
  have hlk := Bd.notSynchronized
  have hml : c.maxLocals = 4 := hml0
  have hown : s.vm.findClass "java/util/ArrayList" = some m.cls := findClass_of_methodNamed Bd.named
  have hown0 := hown
  have hnm := (name_of_methodNamed Bd.named Bd.method).1
  have hret := Bd.returns
  have X0 : Stand p l e ({ frames := 1, cells := 1, slots := 10, locals := 14 } : Room) s m #[(.ref a), (.int (1 : Int32))] below meth c s₁ [] 0 0 := Stand.of_body Bd
  have e0 : s₁.heap = h0 := by rw [← hh, Bd.state]; rfl
  have N0 := Fr.nil n0
  have sz := Z0
  have K := Keep.refl h0 [a]
  show Runs p.tables e below (Phi s (Q_rmGr Z a d kd m_ h0 n0) ({ frames := 1, cells := 1, slots := 10, locals := 14 } : Room).cells ({ frames := 1, cells := 1, slots := 10, locals := 14 } : Room).slots) _
  refine Runs.st (fun t' k' => castTop (ef_jdk_38_method_6_RI m a (1 : Int32) ) k') ?_
  show Runs p.tables e below _ (s₁.setTop (mkF m 0 #[.val (.ref a), .val (.int (1 : Int32)), .unset, .unset] []))
  refine Runs.st (fun t' k' => XS.aloadN X0.here hx rfl (hb hby d_jdk_38_method_6_0) rfl rfl k') ?_
  show Runs p.tables e below _ (s₁.setTop (mkF m 1 #[.val (.ref a), .val (.int (1 : Int32)), .unset, .unset] [(.ref a)]))
  obtain ⟨T1_, X1_, e1_, st1_⟩ := getF X0 hx hZ hown (host := "") (Or.inl (hw _ (List.mem_of_getElem? (i := 66) rfl))) Via.refl e0 F_e (g := (mkF m 1 #[.val (.ref a), .val (.int (1 : Int32)), .unset, .unset] [(.ref a)])) rfl rfl (hb hby d_jdk_38_method_6_1)
  refine Runs.st (st1_) ?_
  show Runs p.tables e below _ (T1_.setTop (mkF m 4 #[.val (.ref a), .val (.int (1 : Int32)), .unset, .unset] [(.ref d)]))
  obtain ⟨cl2_, Ar2_, -, S2_, M2_, -, -⟩ := id (V_d.ext old.2)
  refine Runs.st (X1_.arraylength hx (by rw [e1_]; exact Ar2_.1) (State.isArrayOf_alike hZ.alike Ar2_.2.1) (g := (mkF m 4 #[.val (.ref a), .val (.int (1 : Int32)), .unset, .unset] [(.ref d)])) rfl rfl (hb hby d_jdk_38_method_6_4)) ?_
  rw [len_of S2_ M2_]
  show Runs p.tables e below _ (T1_.setTop (mkF m 5 #[.val (.ref a), .val (.int (1 : Int32)), .unset, .unset] [(.int (0 : Int32))]))
  refine Runs.st (fun t' k' => XS.istoreN X1_.here hx rfl (hb hby d_jdk_38_method_6_5) rfl (l' := #[.val (.ref a), .val (.int (1 : Int32)), .val (.int (0 : Int32)), .unset]) rfl k') ?_
  show Runs p.tables e below _ (T1_.setTop (mkF m 6 #[.val (.ref a), .val (.int (1 : Int32)), .val (.int (0 : Int32)), .unset] []))
  refine Runs.st (fun t' k' => XS.iloadN X1_.here hx rfl (hb hby d_jdk_38_method_6_6) rfl k') ?_
  show Runs p.tables e below _ (T1_.setTop (mkF m 7 #[.val (.ref a), .val (.int (1 : Int32)), .val (.int (0 : Int32)), .unset] [(.int (0 : Int32))]))
  refine Runs.st (fun t' k' => XS.ifNo X1_.here hx rfl (hb hby d_jdk_38_method_6_7) rfl ((if0 _ _).trans (flt (by decide)).2.2.1) k') ?_
  show Runs p.tables e below _ (T1_.setTop (mkF m 10 #[.val (.ref a), .val (.int (1 : Int32)), .val (.int (0 : Int32)), .unset] []))
  refine Runs.st (fun t' k' => XS.aloadN X1_.here hx rfl (hb hby d_jdk_38_method_6_10) rfl rfl k') ?_
  show Runs p.tables e below _ (T1_.setTop (mkF m 11 #[.val (.ref a), .val (.int (1 : Int32)), .val (.int (0 : Int32)), .unset] [(.ref a)]))
  obtain ⟨T3_, X3_, e3_, st3_⟩ := getF X1_ hx hZ hown (host := "") (Or.inl (hw _ (List.mem_of_getElem? (i := 66) rfl))) Via.refl e1_ F_e (g := (mkF m 11 #[.val (.ref a), .val (.int (1 : Int32)), .val (.int (0 : Int32)), .unset] [(.ref a)])) rfl rfl (hb hby d_jdk_38_method_6_11)
  refine Runs.st (st3_) ?_
  show Runs p.tables e below _ (T3_.setTop (mkF m 14 #[.val (.ref a), .val (.int (1 : Int32)), .val (.int (0 : Int32)), .unset] [(.ref d)]))
  obtain ⟨T4_, X4_, e4_, st4_⟩ := getS2 X3_ hx hZ hown (host := "") (Or.inl (hw _ (List.mem_of_getElem? (i := 65) rfl))) Via.refl e3_ (Sd.ext old.2) (g := (mkF m 14 #[.val (.ref a), .val (.int (1 : Int32)), .val (.int (0 : Int32)), .unset] [(.ref d)])) rfl (hb hby d_jdk_38_method_6_14)
  refine Runs.st (st4_) ?_
  show Runs p.tables e below _ (T4_.setTop (mkF m 17 #[.val (.ref a), .val (.int (1 : Int32)), .val (.int (0 : Int32)), .unset] [(.ref d), (.ref d)]))
  refine Runs.st (fun t' k' => Jvm.RoadKit.acmp (g := (mkF m 17 #[.val (.ref a), .val (.int (1 : Int32)), .val (.int (0 : Int32)), .unset] [(.ref d), (.ref d)])) X4_ hx rfl rfl rfl (pc0 := 17) (pc' := 45) (same := true) rfl (hb hby d_jdk_38_method_6_17) rfl (decide_eq_true rfl) (by decide) (by decide) k') ?_
  show Runs p.tables e below _ (T4_.setTop (mkF m 45 #[.val (.ref a), .val (.int (1 : Int32)), .val (.int (0 : Int32)), .unset] []))
  refine Runs.st (fun t' k' => XS.aloadN X4_.here hx rfl (hb hby d_jdk_38_method_6_45) rfl rfl k') ?_
  show Runs p.tables e below _ (T4_.setTop (mkF m 46 #[.val (.ref a), .val (.int (1 : Int32)), .val (.int (0 : Int32)), .unset] [(.ref a)]))
  refine Runs.st (fun t' k' => XS.bipush X4_.here hx rfl (hb hby d_jdk_38_method_6_46) k') ?_
  show Runs p.tables e below _ (T4_.setTop (mkF m 48 #[.val (.ref a), .val (.int (1 : Int32)), .val (.int (0 : Int32)), .unset] [(.int (10 : Int32)), (.ref a)]))
  refine Runs.st (fun t' k' => XS.iloadN X4_.here hx rfl (hb hby d_jdk_38_method_6_48) rfl k') ?_
  show Runs p.tables e below _ (T4_.setTop (mkF m 49 #[.val (.ref a), .val (.int (1 : Int32)), .val (.int (0 : Int32)), .unset] [(.int (1 : Int32)), (.int (10 : Int32)), (.ref a)]))
  obtain ⟨_, _, ⟨T5_, L5_, k5_, n5_⟩, -, X5_, ⟨Lc5_, hQ5_, l5_, y5_, z5_⟩, st5_⟩ := Jvm.LawKit.callS X4_ hx (y := (⟨"java/lang/Math", "max", "(II)I"⟩ : MethodName)) hown (mvT hZ (hw _ (List.mem_of_getElem? (i := 92) rfl))) (mvT hZ (hw _ (List.mem_of_getElem? (i := 93) rfl))) (mvT hZ (hw _ (List.mem_of_getElem? (i := 94) rfl))) (mvT hZ (hw _ (List.mem_of_getElem? (i := 95) rfl))) (by decide) (backOf (W := 1) (rmMaxI l Z a0 hw [] (10 : Int32) (1 : Int32) (10 : Int32) h0 n0 sz (by decide)) hZ (hw _ (List.mem_of_getElem? (i := 95) rfl)) (hw _ (List.mem_of_getElem? (i := 94) rfl)) (by decide) (by decide)) (g := (mkF m 49 #[.val (.ref a), .val (.int (1 : Int32)), .val (.int (0 : Int32)), .unset] [(.int (1 : Int32)), (.int (10 : Int32)), (.ref a)])) rfl (by rw [hml]; rfl) (argsL := [(.int (10 : Int32)), (.int (1 : Int32))]) (rest := [(.ref a)]) (lenOf pd__28II_29I rfl) rfl (by show 2 * 0 + _ ≤ _; exact Nat.le_of_eq rfl) (hb hby d_jdk_38_method_6_49) (fun _ _ => ⟨rfl, e4_, (by decide : 0 + 0 ≤ _), (by decide : 0 + 0 ≤ _)⟩)
  dsimp only [Pt.U, Pt.locs, Pt.cells, Pt.slots] at X5_ l5_ y5_ z5_ st5_ hQ5_
  subst l5_ y5_ z5_
  obtain ⟨rfl, N5_q, e5_⟩ := hQ5_
  have N5_ := Fr.app N0 N5_q
  refine Runs.st (st5_) ?_
  replace X5_ := wider X5_ (c' := 0) (s' := 0) (by decide) (by decide)
  show Runs p.tables e below _ (T5_.setTop (mkF m 52 #[.val (.ref a), .val (.int (1 : Int32)), .val (.int (0 : Int32)), .unset] [(.int (10 : Int32)), (.ref a)]))
  obtain ⟨T6_, h6_, k6_, X6_, e6_, E6_, A6_, O6_, st6_⟩ := newR X5_ hx hZ hown (hw _ (List.mem_of_getElem? (i := 96) rfl)) (hw _ (List.mem_of_getElem? (i := 97) rfl)) e5_ (g := (mkF m 52 #[.val (.ref a), .val (.int (1 : Int32)), .val (.int (0 : Int32)), .unset] [(.int (10 : Int32)), (.ref a)])) rfl (hb hby d_jdk_38_method_6_52) rfl (by decide) (cap := 10) (by decide) (by decide) (by decide) (by decide)
  refine Runs.st (st6_) ?_
  obtain ⟨b, g6_⟩ : ∃ z, z = h0.size := ⟨_, rfl⟩
  rw [← g6_] at A6_
  try rw [← g6_]
  have g_b : n0 ≤ b := Nat.le_trans sz (Nat.le_of_eq g6_.symm)
  have sz_b : h0.size ≤ b := Nat.le_trans K.1 (Nat.le_of_eq g6_.symm)
  have ne_a_b : a ≠ b := Nat.ne_of_lt (Nat.lt_of_lt_of_le E_a.lt (Nat.le_of_eq g6_.symm))
  replace E_a := E_a.ext E6_
  replace F_e := F_e.ext E6_
  replace F_s := F_s.ext E6_
  replace F_m := F_m.ext E6_
  replace old := old.ext E6_
  replace sz := Nat.le_trans sz E6_.1
  replace K := K.ext E6_
  have V_b : Arv Z h6_ b k6_ (.object "java/lang/Object") (10 : Int32) [.null, .null, .null, .null, .null, .null, .null, .null, .null, .null] .null := (Arv.new A6_ (by decide)).pad (pad_rep [] .null 10)
  have O_b := O6_
  show Runs p.tables e below _ (T6_.setTop (mkF m 55 #[.val (.ref a), .val (.int (1 : Int32)), .val (.int (0 : Int32)), .unset] [(.ref b), (.ref a)]))
  refine Runs.st (fun t' k' => XS.dupX1 X6_.here hx rfl (hb hby d_jdk_38_method_6_55) rfl rfl rfl k') ?_
  show Runs p.tables e below _ (T6_.setTop (mkF m 56 #[.val (.ref a), .val (.int (1 : Int32)), .val (.int (0 : Int32)), .unset] [(.ref b), (.ref a), (.ref b)]))
  obtain ⟨T7_, h7_, X7_, e7_, W7_, st7_⟩ := putF X6_ hx hZ hown (host := "") (Or.inl (hw _ (List.mem_of_getElem? (i := 66) rfl))) Via.refl e6_ F_e E_a (Or.inl (hw _ (List.mem_of_getElem? (i := 67) rfl))) (hw _ (List.mem_of_getElem? (i := 45) rfl)) (ty := (.array (.object "java/lang/Object"))) (by decide) rfl rfl (g := (mkF m 56 #[.val (.ref a), .val (.int (1 : Int32)), .val (.int (0 : Int32)), .unset] [(.ref b), (.ref a), (.ref b)])) rfl rfl (hb hby d_jdk_38_method_6_56)
  refine Runs.st (st7_) ?_
  replace F_e := F_e.same W7_
  replace E_a := Jvm.RoadKit.Exa.wr W7_ E_a
  replace F_s := F_s.other W7_ (Or.inr (slot_ne (Or.inl (hw _ (List.mem_of_getElem? (i := 76) rfl))) (Or.inl (hw _ (List.mem_of_getElem? (i := 67) rfl))) (by decide) (t := .int) (t' := (.array (.object "java/lang/Object"))) (by decide) (by decide)))
  replace F_m := F_m.other W7_ (Or.inr (slot_ne (Or.inl (hw _ (List.mem_of_getElem? (i := 64) rfl))) (Or.inl (hw _ (List.mem_of_getElem? (i := 67) rfl))) (by decide) (t := .int) (t' := (.array (.object "java/lang/Object"))) (by decide) (by decide)))
  replace old := old.wr W7_ g_a
  replace V_b := V_b.other W7_ (Ne.symm ne_a_b)
  replace sz := Nat.le_trans sz (Keep.of_wr W7_).1
  have N7_ := Fr.snoc X7_ N5_ g_a
  replace K := K.wr W7_ (Or.inl (List.mem_of_getElem? (i := 0) rfl))
  show Runs p.tables e below _ (T7_.setTop (mkF m 59 #[.val (.ref a), .val (.int (1 : Int32)), .val (.int (0 : Int32)), .unset] [(.ref b)]))
  refine Runs.ret X7_ hlk (v := (some (.ref b))) (fun h => by rw [hret] at h; cases h) (by decide) (by decide) ?_ (fun fs hr => retOut X7_ hx hret rfl (Or.inr (Or.inr (Or.inr (Or.inr ⟨rfl, rfl, rfl⟩)))) (hb hby d_jdk_38_method_6_59) hr)
  try rw [e7_]
  exact ⟨b, _, rfl, N7_, K, sz_b, E_a, F_e, F_s, F_m, V_b, O_b⟩
def Q_rmGr0 (Z : State) (a : Addr) (d : Addr) (kd : ClassId) (m_ : Int32) (h0 : Heap) (n0 : Nat) : Option Value → Heap → List Loc → Prop := (fun v h L => ∃ b kb, v = some (.ref b) ∧ Fr n0 L ∧ Keep h0 h [a] ∧ h0.size ≤ b ∧ Exa Z h a "java/util/ArrayList" ∧ Fld Z h a "java/util/ArrayList" "elementData" "[Ljava/lang/Object;" (.ref b) ∧ Fld Z h a "java/util/ArrayList" "size" "I" (.int (0 : Int32)) ∧ Fld Z h a "java/util/AbstractList" "modCount" "I" (.int m_) ∧ Arv Z h b kb (.object "java/lang/Object") (10 : Int32) [.null, .null, .null, .null, .null, .null, .null, .null, .null, .null] .null ∧ Ovr Z kb "java/lang/Object")
theorem ef_jdk_38_method_7_R (m : MethodId) (x0 : Addr)  : entryFrame m #[(.ref x0)] 1 = mkF m 0 #[.val (.ref x0)] [] := by first | (simp [entryFrame, mkF, argsToLocals, Value.category]; done) | rfl
theorem d_jdk_38_method_7_0 : decode jdk_38_method_7_code 0 = .ok (.aload_n 0, 1) := by decide +kernel
theorem d_jdk_38_method_7_1 : decode jdk_38_method_7_code 1 = .ok (.aload_n 0, 1) := by decide +kernel
theorem d_jdk_38_method_7_2 : decode jdk_38_method_7_code 2 = .ok (.getfield 48, 3) := by decide +kernel
theorem d_jdk_38_method_7_5 : decode jdk_38_method_7_code 5 = .ok (.iconst 1, 1) := by decide +kernel
theorem d_jdk_38_method_7_6 : decode jdk_38_method_7_code 6 = .ok (.iadd, 1) := by decide +kernel
theorem pd__28I_29_5bLjava_2flang_2fObject_3b : parseMethodDescriptor "(I)[Ljava/lang/Object;" = some ⟨[.int], some (.array (.object "java/lang/Object"))⟩ := by decide +kernel
theorem d_jdk_38_method_7_7 : decode jdk_38_method_7_code 7 = .ok (.invokevirtual 69, 3) := by decide +kernel
theorem d_jdk_38_method_7_10 : decode jdk_38_method_7_code 10 = .ok (.areturn, 1) := by decide +kernel
set_option maxRecDepth 65536 in
set_option maxHeartbeats 40000000 in
theorem rmGr0 (l : Launch) (Z : State) (a0 : Array Value) (hw : ∀ d ∈ tables_1, d.before a0 Z = true) (ws : List Jvm.Cond) (a : Addr) (d : Addr) (kd : ClassId) (m_ : Int32) (h0 : Heap) (n0 : Nat) (Z0 : n0 ≤ h0.size) (E_a : Exa Z h0 a "java/util/ArrayList") (F_e : Fld Z h0 a "java/util/ArrayList" "elementData" "[Ljava/lang/Object;" (.ref d)) (F_s : Fld Z h0 a "java/util/ArrayList" "size" "I" (.int (0 : Int32))) (F_m : Fld Z h0 a "java/util/AbstractList" "modCount" "I" (.int m_)) (g_a : n0 ≤ a) (Sd : Sta Z Z.heap "java/util/ArrayList" "DEFAULTCAPACITY_EMPTY_ELEMENTDATA" "[Ljava/lang/Object;" (.ref d)) (V_d : Arv Z Z.heap d kd (.object "java/lang/Object") (0 : Int32) [] .null) (old : Old Z n0 h0) :
    MetFree l (⟨"java/util/ArrayList", "grow", "()[Ljava/lang/Object;"⟩ : MethodName) (head1 (Jvm.Cond.code (⟨"java/util/ArrayList", "grow", "()[Ljava/lang/Object;"⟩ : MethodName) jdk_38_method_7_code 1 (some (.array (.object "java/lang/Object"))) :: ws) ({ frames := 2, cells := 1, slots := 10, locals := 29 } : Room)) (fun ar_ U => ar_ = #[(.ref a)] ∧ Z.Warmed39 U.vm ∧ U.heap = h0) (fun _ _ _ _ _ => True) (fun _ U o U' => Phi U (Q_rmGr0 Z a d kd m_ h0 n0) ({ frames := 2, cells := 1, slots := 10, locals := 29 } : Room).cells ({ frames := 2, cells := 1, slots := 10, locals := 29 } : Room).slots o U') := by
  refine MetFree.of_bodySF (plainFor_of_name pn_java_util_ArrayList) hisR ?_
  intro p e s m args below meth c s₁ Bd hml0 hP hK
  obtain ⟨rfl, hZ, hh⟩ := hP
  have hx := Bd.exec
  have hby := Bd.bytes
  have hlk := Bd.notSynchronized
  have hml : c.maxLocals = 1 := hml0
  have hown : s.vm.findClass "java/util/ArrayList" = some m.cls := findClass_of_methodNamed Bd.named
  have hown0 := hown
  have hnm := (name_of_methodNamed Bd.named Bd.method).1
  have hret := Bd.returns
  have X0 : Stand p l e ({ frames := 2, cells := 1, slots := 10, locals := 29 } : Room) s m #[(.ref a)] below meth c s₁ [] 0 0 := Stand.of_body Bd
  have e0 : s₁.heap = h0 := by rw [← hh, Bd.state]; rfl
  have N0 := Fr.nil n0
  have sz := Z0
  have K := Keep.refl h0 [a]
  show Runs p.tables e below (Phi s (Q_rmGr0 Z a d kd m_ h0 n0) ({ frames := 2, cells := 1, slots := 10, locals := 29 } : Room).cells ({ frames := 2, cells := 1, slots := 10, locals := 29 } : Room).slots) _
  refine Runs.st (fun t' k' => castTop (ef_jdk_38_method_7_R m a ) k') ?_
  show Runs p.tables e below _ (s₁.setTop (mkF m 0 #[.val (.ref a)] []))
  refine Runs.st (fun t' k' => XS.aloadN X0.here hx rfl (hb hby d_jdk_38_method_7_0) rfl rfl k') ?_
  show Runs p.tables e below _ (s₁.setTop (mkF m 1 #[.val (.ref a)] [(.ref a)]))
  refine Runs.st (fun t' k' => XS.aloadN X0.here hx rfl (hb hby d_jdk_38_method_7_1) rfl rfl k') ?_
  show Runs p.tables e below _ (s₁.setTop (mkF m 2 #[.val (.ref a)] [(.ref a), (.ref a)]))
  obtain ⟨T1_, X1_, e1_, st1_⟩ := getF X0 hx hZ hown (host := "") (Or.inl (hw _ (List.mem_of_getElem? (i := 75) rfl))) Via.refl e0 F_s (g := (mkF m 2 #[.val (.ref a)] [(.ref a), (.ref a)])) rfl rfl (hb hby d_jdk_38_method_7_2)
  refine Runs.st (st1_) ?_
  show Runs p.tables e below _ (T1_.setTop (mkF m 5 #[.val (.ref a)] [(.int (0 : Int32)), (.ref a)]))
  refine Runs.st (fun t' k' => XS.iconst X1_.here hx rfl (hb hby d_jdk_38_method_7_5) k') ?_
  show Runs p.tables e below _ (T1_.setTop (mkF m 6 #[.val (.ref a)] [(.int (1 : Int32)), (.int (0 : Int32)), (.ref a)]))
  refine Runs.st (fun t' k' => XS.iadd X1_.here hx rfl (hb hby d_jdk_38_method_7_6) rfl k') ?_
  show Runs p.tables e below _ (T1_.setTop (mkF m 7 #[.val (.ref a)] [(.int ((0 : Int32) + (1 : Int32))), (.ref a)]))
  rw [show (0 : Int32) + (1 : Int32) = (1 : Int32) from rfl]
  show Runs p.tables e below _ (T1_.setTop (mkF m 7 #[.val (.ref a)] [(.int (1 : Int32)), (.ref a)]))
  have kz2_ := K.1
  have gz2_ := sz
  obtain ⟨cq2_, q2_, q2_'⟩ := E_a.cell
  obtain ⟨_, _, ⟨T2_, L2_, k2_, n2_⟩, -, X2_, ⟨Lc2_, hQ2_, l2_, y2_, z2_⟩, st2_⟩ := X1_.privateBack hx (y := (⟨"java/util/ArrayList", "grow", "(I)[Ljava/lang/Object;"⟩ : MethodName)) hown (mvT hZ (hw _ (List.mem_of_getElem? (i := 87) rfl))) (mvT hZ (hw _ (List.mem_of_getElem? (i := 88) rfl))) (mvT hZ (hw _ (List.mem_of_getElem? (i := 90) rfl))) (Cond.privateMethod_at (mvP hZ (hw _ (List.mem_of_getElem? (i := 89) rfl)) (args := #[]))) (mvT hZ (hw _ (List.mem_of_getElem? (i := 91) rfl))) (by decide) (backOf (W := 0) (rmGr l Z a0 hw [] a d kd m_ h0 n0 sz E_a F_e F_s F_m g_a Sd V_d old) hZ (hw _ (List.mem_of_getElem? (i := 91) rfl)) (hw _ (List.mem_of_getElem? (i := 46) rfl)) (by decide) (by decide)) (g := (mkF m 7 #[.val (.ref a)] [(.int (1 : Int32)), (.ref a)])) rfl (by rw [hml]; rfl) (Steps.refl _) (a := a) (by rw [e1_]; exact q2_) q2_' (argsL := [(.int (1 : Int32))]) (rest := []) (lenOf pd__28I_29_5bLjava_2flang_2fObject_3b rfl) rfl (by show 2 * 0 + _ ≤ _; exact Nat.le_of_eq rfl) (hb hby d_jdk_38_method_7_7) (fun _ _ => ⟨rfl, e1_, (by decide : 0 + 1 ≤ _), (by decide : 0 + 10 ≤ _)⟩)
  dsimp only [Pt.U, Pt.locs, Pt.cells, Pt.slots] at X2_ l2_ y2_ z2_ st2_ hQ2_
  subst l2_ y2_ z2_
  obtain ⟨b, kb, rfl, N2_q, K2_, szb, E_a, F_e, F_s, F_m, V_b, O_b⟩ := hQ2_
  have N2_ := Fr.app N0 N2_q
  refine Runs.tr st2_ ?_
  replace X2_ := wider X2_ (c' := 1) (s' := 10) (by decide) (by decide)
  replace sz := Nat.le_trans sz K2_.1
  replace K := K.trans K2_ (allS (Or.inl (List.mem_of_getElem? (i := 0) rfl)) all0)
  have sz_b : h0.size ≤ b := Nat.le_trans kz2_ szb
  have g_b : n0 ≤ b := Nat.le_trans gz2_ szb
  show Runs p.tables e below _ (T2_.setTop (mkF m 10 #[.val (.ref a)] [(.ref b)]))
  refine Runs.ret X2_ hlk (v := (some (.ref b))) (fun h => by rw [hret] at h; cases h) (by decide) (by decide) ?_ (fun fs hr => retOut X2_ hx hret rfl (Or.inr (Or.inr (Or.inr (Or.inr ⟨rfl, rfl, rfl⟩)))) (hb hby d_jdk_38_method_7_10) hr)
  exact ⟨b, kb, rfl, N2_, K, sz_b, E_a, F_e, F_s, F_m, V_b, O_b⟩
def Q_rmAd (Z : State) (a : Addr) (x_ : Addr) (d : Addr) (kd : ClassId) (m_ : Int32) (h0 : Heap) (n0 : Nat) : Option Value → Heap → List Loc → Prop := (fun v h L => v = none ∧ Fr n0 L ∧ Keep h0 h [a] ∧ Exa Z h a "java/util/ArrayList" ∧ Fld Z h a "java/util/ArrayList" "size" "I" (.int (1 : Int32)) ∧ ∃ b kb, h0.size ≤ b ∧ Fld Z h a "java/util/ArrayList" "elementData" "[Ljava/lang/Object;" (.ref b) ∧ Arv Z h b kb (.object "java/lang/Object") (10 : Int32) [(.ref x_), .null, .null, .null, .null, .null, .null, .null, .null, .null] .null)
theorem ef_jdk_38_method_24_RRRI (m : MethodId) (x0 : Addr) (x1 : Addr) (x2 : Addr) (x3 : Int32)  : entryFrame m #[(.ref x0), (.ref x1), (.ref x2), (.int x3)] 4 = mkF m 0 #[.val (.ref x0), .val (.ref x1), .val (.ref x2), .val (.int x3)] [] := by first | (simp [entryFrame, mkF, argsToLocals, Value.category]; done) | rfl
theorem d_jdk_38_method_24_0 : decode jdk_38_method_24_code 0 = .ok (.iload_n 3, 1) := by decide +kernel
theorem d_jdk_38_method_24_1 : decode jdk_38_method_24_code 1 = .ok (.aload_n 2, 1) := by decide +kernel
theorem d_jdk_38_method_24_2 : decode jdk_38_method_24_code 2 = .ok (.arraylength, 1) := by decide +kernel
theorem d_jdk_38_method_24_3 : decode jdk_38_method_24_code 3 = .ok (.if_icmp .ne 8, 3) := by decide +kernel
theorem d_jdk_38_method_24_6 : decode jdk_38_method_24_code 6 = .ok (.aload_n 0, 1) := by decide +kernel
theorem pd__28_29_5bLjava_2flang_2fObject_3b : parseMethodDescriptor "()[Ljava/lang/Object;" = some ⟨[], some (.array (.object "java/lang/Object"))⟩ := by decide +kernel
theorem d_jdk_38_method_24_7 : decode jdk_38_method_24_code 7 = .ok (.invokevirtual 129, 3) := by decide +kernel
theorem d_jdk_38_method_24_10 : decode jdk_38_method_24_code 10 = .ok (.astore_n 2, 1) := by decide +kernel
theorem d_jdk_38_method_24_11 : decode jdk_38_method_24_code 11 = .ok (.aload_n 2, 1) := by decide +kernel
theorem d_jdk_38_method_24_12 : decode jdk_38_method_24_code 12 = .ok (.iload_n 3, 1) := by decide +kernel
theorem d_jdk_38_method_24_13 : decode jdk_38_method_24_code 13 = .ok (.aload_n 1, 1) := by decide +kernel
theorem d_jdk_38_method_24_14 : decode jdk_38_method_24_code 14 = .ok (.aastore, 1) := by decide +kernel
theorem d_jdk_38_method_24_15 : decode jdk_38_method_24_code 15 = .ok (.aload_n 0, 1) := by decide +kernel
theorem d_jdk_38_method_24_16 : decode jdk_38_method_24_code 16 = .ok (.iload_n 3, 1) := by decide +kernel
theorem d_jdk_38_method_24_17 : decode jdk_38_method_24_code 17 = .ok (.iconst 1, 1) := by decide +kernel
theorem d_jdk_38_method_24_18 : decode jdk_38_method_24_code 18 = .ok (.iadd, 1) := by decide +kernel
theorem d_jdk_38_method_24_19 : decode jdk_38_method_24_code 19 = .ok (.putfield 48, 3) := by decide +kernel
theorem d_jdk_38_method_24_22 : decode jdk_38_method_24_code 22 = .ok (.return_, 1) := by decide +kernel
set_option maxRecDepth 65536 in
set_option maxHeartbeats 40000000 in
theorem rmAd (l : Launch) (Z : State) (a0 : Array Value) (hw : ∀ d ∈ tables_1, d.before a0 Z = true) (ws : List Jvm.Cond) (a : Addr) (x_ : Addr) (d : Addr) (kd : ClassId) (m_ : Int32) (h0 : Heap) (n0 : Nat) (Z0 : n0 ≤ h0.size) (E_a : Exa Z h0 a "java/util/ArrayList") (F_e : Fld Z h0 a "java/util/ArrayList" "elementData" "[Ljava/lang/Object;" (.ref d)) (F_s : Fld Z h0 a "java/util/ArrayList" "size" "I" (.int (0 : Int32))) (F_m : Fld Z h0 a "java/util/AbstractList" "modCount" "I" (.int m_)) (g_a : n0 ≤ a) (Sd : Sta Z Z.heap "java/util/ArrayList" "DEFAULTCAPACITY_EMPTY_ELEMENTDATA" "[Ljava/lang/Object;" (.ref d)) (V_d : Arv Z Z.heap d kd (.object "java/lang/Object") (0 : Int32) [] .null) (old : Old Z n0 h0) (E_x : Exa Z h0 x_ "java/lang/String") (ne_x__a : x_ ≠ a) :
    MetFree l (⟨"java/util/ArrayList", "add", "(Ljava/lang/Object;[Ljava/lang/Object;I)V"⟩ : MethodName) (head1 (Jvm.Cond.code (⟨"java/util/ArrayList", "add", "(Ljava/lang/Object;[Ljava/lang/Object;I)V"⟩ : MethodName) jdk_38_method_24_code 4 none :: ws) ({ frames := 3, cells := 1, slots := 10, locals := 41 } : Room)) (fun ar_ U => ar_ = #[(.ref a), (.ref x_), (.ref d), (.int (0 : Int32))] ∧ Z.Warmed39 U.vm ∧ U.heap = h0) (fun _ _ _ _ _ => True) (fun _ U o U' => Phi U (Q_rmAd Z a x_ d kd m_ h0 n0) ({ frames := 3, cells := 1, slots := 10, locals := 41 } : Room).cells ({ frames := 3, cells := 1, slots := 10, locals := 41 } : Room).slots o U') := by
  refine MetFree.of_bodySF (plainFor_of_name pn_java_util_ArrayList) hisR ?_
  intro p e s m args below meth c s₁ Bd hml0 hP hK
  obtain ⟨rfl, hZ, hh⟩ := hP
  have hx := Bd.exec
  have hby := Bd.bytes
  have hlk := Bd.notSynchronized
  have hml : c.maxLocals = 4 := hml0
  have hown : s.vm.findClass "java/util/ArrayList" = some m.cls := findClass_of_methodNamed Bd.named
  have hown0 := hown
  have hnm := (name_of_methodNamed Bd.named Bd.method).1
  have hret := Bd.returns
  have X0 : Stand p l e ({ frames := 3, cells := 1, slots := 10, locals := 41 } : Room) s m #[(.ref a), (.ref x_), (.ref d), (.int (0 : Int32))] below meth c s₁ [] 0 0 := Stand.of_body Bd
  have e0 : s₁.heap = h0 := by rw [← hh, Bd.state]; rfl
  have N0 := Fr.nil n0
  have sz := Z0
  have K := Keep.refl h0 [a]
  show Runs p.tables e below (Phi s (Q_rmAd Z a x_ d kd m_ h0 n0) ({ frames := 3, cells := 1, slots := 10, locals := 41 } : Room).cells ({ frames := 3, cells := 1, slots := 10, locals := 41 } : Room).slots) _
  refine Runs.st (fun t' k' => castTop (ef_jdk_38_method_24_RRRI m a x_ d (0 : Int32) ) k') ?_
  show Runs p.tables e below _ (s₁.setTop (mkF m 0 #[.val (.ref a), .val (.ref x_), .val (.ref d), .val (.int (0 : Int32))] []))
  refine Runs.st (fun t' k' => XS.iloadN X0.here hx rfl (hb hby d_jdk_38_method_24_0) rfl k') ?_
  show Runs p.tables e below _ (s₁.setTop (mkF m 1 #[.val (.ref a), .val (.ref x_), .val (.ref d), .val (.int (0 : Int32))] [(.int (0 : Int32))]))
  refine Runs.st (fun t' k' => XS.aloadN X0.here hx rfl (hb hby d_jdk_38_method_24_1) rfl rfl k') ?_
  show Runs p.tables e below _ (s₁.setTop (mkF m 2 #[.val (.ref a), .val (.ref x_), .val (.ref d), .val (.int (0 : Int32))] [(.ref d), (.int (0 : Int32))]))
  obtain ⟨cl1_, Ar1_, -, S1_, M1_, -, -⟩ := id (V_d.ext old.2)
  refine Runs.st (X0.arraylength hx (by rw [e0]; exact Ar1_.1) (State.isArrayOf_alike hZ.alike Ar1_.2.1) (g := (mkF m 2 #[.val (.ref a), .val (.ref x_), .val (.ref d), .val (.int (0 : Int32))] [(.ref d), (.int (0 : Int32))])) rfl rfl (hb hby d_jdk_38_method_24_2)) ?_
  rw [len_of S1_ M1_]
  show Runs p.tables e below _ (s₁.setTop (mkF m 3 #[.val (.ref a), .val (.ref x_), .val (.ref d), .val (.int (0 : Int32))] [(.int (0 : Int32)), (.int (0 : Int32))]))
  refine Runs.st (fun t' k' => XS.icmpNo X0.here hx rfl (hb hby d_jdk_38_method_24_3) rfl (teq rfl).2 k') ?_
  show Runs p.tables e below _ (s₁.setTop (mkF m 6 #[.val (.ref a), .val (.ref x_), .val (.ref d), .val (.int (0 : Int32))] []))
  refine Runs.st (fun t' k' => XS.aloadN X0.here hx rfl (hb hby d_jdk_38_method_24_6) rfl rfl k') ?_
  show Runs p.tables e below _ (s₁.setTop (mkF m 7 #[.val (.ref a), .val (.ref x_), .val (.ref d), .val (.int (0 : Int32))] [(.ref a)]))
  have kz2_ := K.1
  have gz2_ := sz
  have lt2__x_ := E_x.lt
  have ltA := E_a.lt
  obtain ⟨cq2_, q2_, q2_'⟩ := E_a.cell
  obtain ⟨_, _, ⟨T2_, L2_, k2_, n2_⟩, -, X2_, ⟨Lc2_, hQ2_, l2_, y2_, z2_⟩, st2_⟩ := X0.privateBack hx (y := (⟨"java/util/ArrayList", "grow", "()[Ljava/lang/Object;"⟩ : MethodName)) hown (mvT hZ (hw _ (List.mem_of_getElem? (i := 82) rfl))) (mvT hZ (hw _ (List.mem_of_getElem? (i := 83) rfl))) (mvT hZ (hw _ (List.mem_of_getElem? (i := 85) rfl))) (Cond.privateMethod_at (mvP hZ (hw _ (List.mem_of_getElem? (i := 84) rfl)) (args := #[]))) (mvT hZ (hw _ (List.mem_of_getElem? (i := 86) rfl))) (by decide) (backOf (W := 0) (rmGr0 l Z a0 hw [] a d kd m_ h0 n0 sz E_a F_e F_s F_m g_a Sd V_d old) hZ (hw _ (List.mem_of_getElem? (i := 86) rfl)) (hw _ (List.mem_of_getElem? (i := 46) rfl)) (by decide) (by decide)) (g := (mkF m 7 #[.val (.ref a), .val (.ref x_), .val (.ref d), .val (.int (0 : Int32))] [(.ref a)])) rfl (by rw [hml]; rfl) (Steps.refl _) (a := a) (by rw [e0]; exact q2_) q2_' (argsL := []) (rest := []) (lenOf pd__28_29_5bLjava_2flang_2fObject_3b rfl) rfl (by show 2 * 0 + _ ≤ _; exact Nat.le_of_eq rfl) (hb hby d_jdk_38_method_24_7) (fun _ _ => ⟨rfl, e0, (by decide : 0 + 1 ≤ _), (by decide : 0 + 10 ≤ _)⟩)
  dsimp only [Pt.U, Pt.locs, Pt.cells, Pt.slots] at X2_ l2_ y2_ z2_ st2_ hQ2_
  subst l2_ y2_ z2_
  obtain ⟨b, kb, rfl, N2_q, K2_, szb, E_a, F_e, F_s, F_m, V_b, O_b⟩ := hQ2_
  have N2_ := Fr.app N0 N2_q
  refine Runs.tr st2_ ?_
  replace X2_ := wider X2_ (c' := 1) (s' := 10) (by decide) (by decide)
  replace E_x := E_x.keep K2_
  replace sz := Nat.le_trans sz K2_.1
  replace K := K.trans K2_ (allS (Or.inl (List.mem_of_getElem? (i := 0) rfl)) all0)
  have sz_b : h0.size ≤ b := Nat.le_trans kz2_ szb
  have g_b : n0 ≤ b := Nat.le_trans gz2_ szb
  have ne_x__b : x_ ≠ b := Nat.ne_of_lt (Nat.lt_of_lt_of_le lt2__x_ szb)
  show Runs p.tables e below _ (T2_.setTop (mkF m 10 #[.val (.ref a), .val (.ref x_), .val (.ref d), .val (.int (0 : Int32))] [(.ref b)]))
  have ne_a_b : a ≠ b := Nat.ne_of_lt (Nat.lt_of_lt_of_le ltA szb)
  refine Runs.st (fun t' k' => XS.astoreN X2_.here hx rfl (hb hby d_jdk_38_method_24_10) rfl rfl (l' := #[.val (.ref a), .val (.ref x_), .val (.ref b), .val (.int (0 : Int32))]) rfl k') ?_
  show Runs p.tables e below _ (T2_.setTop (mkF m 11 #[.val (.ref a), .val (.ref x_), .val (.ref b), .val (.int (0 : Int32))] []))
  refine Runs.st (fun t' k' => XS.aloadN X2_.here hx rfl (hb hby d_jdk_38_method_24_11) rfl rfl k') ?_
  show Runs p.tables e below _ (T2_.setTop (mkF m 12 #[.val (.ref a), .val (.ref x_), .val (.ref b), .val (.int (0 : Int32))] [(.ref b)]))
  refine Runs.st (fun t' k' => XS.iloadN X2_.here hx rfl (hb hby d_jdk_38_method_24_12) rfl k') ?_
  show Runs p.tables e below _ (T2_.setTop (mkF m 13 #[.val (.ref a), .val (.ref x_), .val (.ref b), .val (.int (0 : Int32))] [(.int (0 : Int32)), (.ref b)]))
  refine Runs.st (fun t' k' => XS.aloadN X2_.here hx rfl (hb hby d_jdk_38_method_24_13) rfl rfl k') ?_
  show Runs p.tables e below _ (T2_.setTop (mkF m 14 #[.val (.ref a), .val (.ref x_), .val (.ref b), .val (.int (0 : Int32))] [(.ref x_), (.int (0 : Int32)), (.ref b)]))
  obtain ⟨cl3_, Ar3_, q3_, S3_, M3_, Ha3_, G3_⟩ := V_b
  have hin3_ : ¬ ((0 : Int32) < 0 ∨ cl3_.slots.size ≤ ((0 : Int32)).toNatClampNeg) := inb_of S3_ ⟨by decide, by decide⟩
  have sto3_ : Sto Z T2_.heap b (.ref x_) := Sto.ofV Ar3_ q3_ O_b (Ins.of_exa E_x (hw _ (List.mem_of_getElem? (i := 98) rfl)))
  obtain ⟨T3_, h3_, X3_, e3_, W3_, st3_⟩ := stR X2_ hx hZ rfl Ar3_ (j := (0 : Int32)) hin3_ rfl sto3_ (g := (mkF m 14 #[.val (.ref a), .val (.ref x_), .val (.ref b), .val (.int (0 : Int32))] [(.ref x_), (.int (0 : Int32)), (.ref b)])) rfl rfl (hb hby d_jdk_38_method_24_14)
  refine Runs.st (st3_) ?_
  have V_b := Arv.set Ar3_ q3_ S3_ M3_ Ha3_ G3_ rfl W3_ 0 rfl (Nat.le_of_ble_eq_true rfl)
  replace E_x := Jvm.RoadKit.Exa.wr W3_ E_x
  replace E_a := Jvm.RoadKit.Exa.wr W3_ E_a
  replace F_e := F_e.other W3_ (Or.inl ne_a_b)
  replace F_s := F_s.other W3_ (Or.inl ne_a_b)
  replace sz := Nat.le_trans sz (Keep.of_wr W3_).1
  have N3_ := Fr.snoc X3_ N2_ g_b
  replace K := K.wr W3_ (Or.inr sz_b)
  show Runs p.tables e below _ (T3_.setTop (mkF m 15 #[.val (.ref a), .val (.ref x_), .val (.ref b), .val (.int (0 : Int32))] []))
  refine Runs.st (fun t' k' => XS.aloadN X3_.here hx rfl (hb hby d_jdk_38_method_24_15) rfl rfl k') ?_
  show Runs p.tables e below _ (T3_.setTop (mkF m 16 #[.val (.ref a), .val (.ref x_), .val (.ref b), .val (.int (0 : Int32))] [(.ref a)]))
  refine Runs.st (fun t' k' => XS.iloadN X3_.here hx rfl (hb hby d_jdk_38_method_24_16) rfl k') ?_
  show Runs p.tables e below _ (T3_.setTop (mkF m 17 #[.val (.ref a), .val (.ref x_), .val (.ref b), .val (.int (0 : Int32))] [(.int (0 : Int32)), (.ref a)]))
  refine Runs.st (fun t' k' => XS.iconst X3_.here hx rfl (hb hby d_jdk_38_method_24_17) k') ?_
  show Runs p.tables e below _ (T3_.setTop (mkF m 18 #[.val (.ref a), .val (.ref x_), .val (.ref b), .val (.int (0 : Int32))] [(.int (1 : Int32)), (.int (0 : Int32)), (.ref a)]))
  refine Runs.st (fun t' k' => XS.iadd X3_.here hx rfl (hb hby d_jdk_38_method_24_18) rfl k') ?_
  show Runs p.tables e below _ (T3_.setTop (mkF m 19 #[.val (.ref a), .val (.ref x_), .val (.ref b), .val (.int (0 : Int32))] [(.int ((0 : Int32) + (1 : Int32))), (.ref a)]))
  obtain ⟨T4_, h4_, X4_, e4_, W4_, st4_⟩ := putF X3_ hx hZ hown (host := "") (Or.inl (hw _ (List.mem_of_getElem? (i := 75) rfl))) Via.refl e3_ F_s E_a (Or.inl (hw _ (List.mem_of_getElem? (i := 76) rfl))) (hw _ (List.mem_of_getElem? (i := 45) rfl)) (ty := .int) (by decide) rfl rfl (g := (mkF m 19 #[.val (.ref a), .val (.ref x_), .val (.ref b), .val (.int (0 : Int32))] [(.int ((0 : Int32) + (1 : Int32))), (.ref a)])) rfl rfl (hb hby d_jdk_38_method_24_19)
  refine Runs.st (st4_) ?_
  replace F_s := F_s.same W4_
  replace E_x := Jvm.RoadKit.Exa.wr W4_ E_x
  replace E_a := Jvm.RoadKit.Exa.wr W4_ E_a
  replace F_e := F_e.other W4_ (Or.inr (slot_ne (Or.inl (hw _ (List.mem_of_getElem? (i := 67) rfl))) (Or.inl (hw _ (List.mem_of_getElem? (i := 76) rfl))) (by decide) (t := (.array (.object "java/lang/Object"))) (t' := .int) (by decide) (by decide)))
  replace V_b := V_b.other W4_ (Ne.symm ne_a_b)
  replace sz := Nat.le_trans sz (Keep.of_wr W4_).1
  have N4_ := Fr.snoc X4_ N3_ g_a
  replace K := K.wr W4_ (Or.inl (List.mem_of_getElem? (i := 0) rfl))
  show Runs p.tables e below _ (T4_.setTop (mkF m 22 #[.val (.ref a), .val (.ref x_), .val (.ref b), .val (.int (0 : Int32))] []))
  refine Runs.ret X4_ hlk (v := none) (fun _ => rfl) (by decide) (by decide) ?_ (fun fs hr => X4_.returnOut hx hret (hb hby d_jdk_38_method_24_22) hr)
  try rw [e4_]
  exact ⟨rfl, N4_, K, E_a, F_s, b, kb, sz_b, F_e, V_b⟩
def Q_rmAdd (Z : State) (a : Addr) (x_ : Addr) (d : Addr) (kd : ClassId) (m_ : Int32) (h0 : Heap) (n0 : Nat) : Option Value → Heap → List Loc → Prop := (fun v h L => v = some (.int 1) ∧ Fr n0 L ∧ Keep h0 h [a] ∧ Exa Z h a "java/util/ArrayList" ∧ Fld Z h a "java/util/ArrayList" "size" "I" (.int (1 : Int32)) ∧ ∃ b kb, h0.size ≤ b ∧ Fld Z h a "java/util/ArrayList" "elementData" "[Ljava/lang/Object;" (.ref b) ∧ Arv Z h b kb (.object "java/lang/Object") (10 : Int32) [(.ref x_), .null, .null, .null, .null, .null, .null, .null, .null, .null] .null)
theorem ef_jdk_38_method_25_RR (m : MethodId) (x0 : Addr) (x1 : Addr)  : entryFrame m #[(.ref x0), (.ref x1)] 2 = mkF m 0 #[.val (.ref x0), .val (.ref x1)] [] := by first | (simp [entryFrame, mkF, argsToLocals, Value.category]; done) | rfl
theorem d_jdk_38_method_25_0 : decode jdk_38_method_25_code 0 = .ok (.aload_n 0, 1) := by decide +kernel
theorem d_jdk_38_method_25_1 : decode jdk_38_method_25_code 1 = .ok (.dup, 1) := by decide +kernel
theorem d_jdk_38_method_25_2 : decode jdk_38_method_25_code 2 = .ok (.getfield 63, 3) := by decide +kernel
theorem d_jdk_38_method_25_5 : decode jdk_38_method_25_code 5 = .ok (.iconst 1, 1) := by decide +kernel
theorem d_jdk_38_method_25_6 : decode jdk_38_method_25_code 6 = .ok (.iadd, 1) := by decide +kernel
theorem d_jdk_38_method_25_7 : decode jdk_38_method_25_code 7 = .ok (.putfield 63, 3) := by decide +kernel
theorem d_jdk_38_method_25_10 : decode jdk_38_method_25_code 10 = .ok (.aload_n 0, 1) := by decide +kernel
theorem d_jdk_38_method_25_11 : decode jdk_38_method_25_code 11 = .ok (.aload_n 1, 1) := by decide +kernel
theorem d_jdk_38_method_25_12 : decode jdk_38_method_25_code 12 = .ok (.aload_n 0, 1) := by decide +kernel
theorem d_jdk_38_method_25_13 : decode jdk_38_method_25_code 13 = .ok (.getfield 9, 3) := by decide +kernel
theorem d_jdk_38_method_25_16 : decode jdk_38_method_25_code 16 = .ok (.aload_n 0, 1) := by decide +kernel
theorem d_jdk_38_method_25_17 : decode jdk_38_method_25_code 17 = .ok (.getfield 48, 3) := by decide +kernel
theorem pd__28Ljava_2flang_2fObject_3b_5bLjava_2flang_2fObject_3bI_29V : parseMethodDescriptor "(Ljava/lang/Object;[Ljava/lang/Object;I)V" = some ⟨[(.object "java/lang/Object"), (.array (.object "java/lang/Object")), .int], none⟩ := by decide +kernel
theorem d_jdk_38_method_25_20 : decode jdk_38_method_25_code 20 = .ok (.invokevirtual 131, 3) := by decide +kernel
theorem d_jdk_38_method_25_23 : decode jdk_38_method_25_code 23 = .ok (.iconst 1, 1) := by decide +kernel
theorem d_jdk_38_method_25_24 : decode jdk_38_method_25_code 24 = .ok (.ireturn, 1) := by decide +kernel
set_option maxRecDepth 65536 in
set_option maxHeartbeats 40000000 in
theorem rmAdd (l : Launch) (Z : State) (a0 : Array Value) (hw : ∀ d ∈ tables_1, d.before a0 Z = true) (ws : List Jvm.Cond) (a : Addr) (x_ : Addr) (d : Addr) (kd : ClassId) (m_ : Int32) (h0 : Heap) (n0 : Nat) (Z0 : n0 ≤ h0.size) (E_a : Exa Z h0 a "java/util/ArrayList") (F_e : Fld Z h0 a "java/util/ArrayList" "elementData" "[Ljava/lang/Object;" (.ref d)) (F_s : Fld Z h0 a "java/util/ArrayList" "size" "I" (.int (0 : Int32))) (F_m : Fld Z h0 a "java/util/AbstractList" "modCount" "I" (.int m_)) (g_a : n0 ≤ a) (Sd : Sta Z Z.heap "java/util/ArrayList" "DEFAULTCAPACITY_EMPTY_ELEMENTDATA" "[Ljava/lang/Object;" (.ref d)) (V_d : Arv Z Z.heap d kd (.object "java/lang/Object") (0 : Int32) [] .null) (old : Old Z n0 h0) (E_x : Exa Z h0 x_ "java/lang/String") (ne_x__a : x_ ≠ a) :
    MetFree l (⟨"java/util/ArrayList", "add", "(Ljava/lang/Object;)Z"⟩ : MethodName) (head1 (Jvm.Cond.code (⟨"java/util/ArrayList", "add", "(Ljava/lang/Object;)Z"⟩ : MethodName) jdk_38_method_25_code 2 (some .boolean) :: ws) ({ frames := 4, cells := 1, slots := 10, locals := 56 } : Room)) (fun ar_ U => ar_ = #[(.ref a), (.ref x_)] ∧ Z.Warmed39 U.vm ∧ U.heap = h0) (fun _ _ _ _ _ => True) (fun _ U o U' => Phi U (Q_rmAdd Z a x_ d kd m_ h0 n0) ({ frames := 4, cells := 1, slots := 10, locals := 56 } : Room).cells ({ frames := 4, cells := 1, slots := 10, locals := 56 } : Room).slots o U') := by
  refine MetFree.of_bodySF (plainFor_of_name pn_java_util_ArrayList) hisR ?_
  intro p e s m args below meth c s₁ Bd hml0 hP hK
  obtain ⟨rfl, hZ, hh⟩ := hP
  have hx := Bd.exec
  have hby := Bd.bytes
  have hlk := Bd.notSynchronized
  have hml : c.maxLocals = 2 := hml0
  have hown : s.vm.findClass "java/util/ArrayList" = some m.cls := findClass_of_methodNamed Bd.named
  have hown0 := hown
  have hnm := (name_of_methodNamed Bd.named Bd.method).1
  have hret := Bd.returns
  have X0 : Stand p l e ({ frames := 4, cells := 1, slots := 10, locals := 56 } : Room) s m #[(.ref a), (.ref x_)] below meth c s₁ [] 0 0 := Stand.of_body Bd
  have e0 : s₁.heap = h0 := by rw [← hh, Bd.state]; rfl
  have N0 := Fr.nil n0
  have sz := Z0
  have K := Keep.refl h0 [a]
  show Runs p.tables e below (Phi s (Q_rmAdd Z a x_ d kd m_ h0 n0) ({ frames := 4, cells := 1, slots := 10, locals := 56 } : Room).cells ({ frames := 4, cells := 1, slots := 10, locals := 56 } : Room).slots) _
  refine Runs.st (fun t' k' => castTop (ef_jdk_38_method_25_RR m a x_ ) k') ?_
  show Runs p.tables e below _ (s₁.setTop (mkF m 0 #[.val (.ref a), .val (.ref x_)] []))
  refine Runs.st (fun t' k' => XS.aloadN X0.here hx rfl (hb hby d_jdk_38_method_25_0) rfl rfl k') ?_
  show Runs p.tables e below _ (s₁.setTop (mkF m 1 #[.val (.ref a), .val (.ref x_)] [(.ref a)]))
  refine Runs.st (fun t' k' => XS.dup X0.here hx rfl (hb hby d_jdk_38_method_25_1) rfl rfl k') ?_
  show Runs p.tables e below _ (s₁.setTop (mkF m 2 #[.val (.ref a), .val (.ref x_)] [(.ref a), (.ref a)]))
  obtain ⟨T1_, X1_, e1_, st1_⟩ := getF X0 hx hZ hown (host := "") (Or.inl (hw _ (List.mem_of_getElem? (i := 73) rfl))) (Via.of (hw _ (List.mem_of_getElem? (i := 74) rfl))) e0 F_m (g := (mkF m 2 #[.val (.ref a), .val (.ref x_)] [(.ref a), (.ref a)])) rfl rfl (hb hby d_jdk_38_method_25_2)
  refine Runs.st (st1_) ?_
  show Runs p.tables e below _ (T1_.setTop (mkF m 5 #[.val (.ref a), .val (.ref x_)] [(.int m_), (.ref a)]))
  refine Runs.st (fun t' k' => XS.iconst X1_.here hx rfl (hb hby d_jdk_38_method_25_5) k') ?_
  show Runs p.tables e below _ (T1_.setTop (mkF m 6 #[.val (.ref a), .val (.ref x_)] [(.int (1 : Int32)), (.int m_), (.ref a)]))
  refine Runs.st (fun t' k' => XS.iadd X1_.here hx rfl (hb hby d_jdk_38_method_25_6) rfl k') ?_
  show Runs p.tables e below _ (T1_.setTop (mkF m 7 #[.val (.ref a), .val (.ref x_)] [(.int (m_ + (1 : Int32))), (.ref a)]))
  obtain ⟨T2_, h2_, X2_, e2_, W2_, st2_⟩ := putF X1_ hx hZ hown (host := "") (Or.inl (hw _ (List.mem_of_getElem? (i := 73) rfl))) (Via.of (hw _ (List.mem_of_getElem? (i := 74) rfl))) e1_ F_m E_a (Or.inl (hw _ (List.mem_of_getElem? (i := 64) rfl))) (hw _ (List.mem_of_getElem? (i := 45) rfl)) (ty := .int) (by decide) rfl rfl (g := (mkF m 7 #[.val (.ref a), .val (.ref x_)] [(.int (m_ + (1 : Int32))), (.ref a)])) rfl rfl (hb hby d_jdk_38_method_25_7)
  refine Runs.st (st2_) ?_
  replace F_m := F_m.same W2_
  replace E_a := Jvm.RoadKit.Exa.wr W2_ E_a
  replace F_e := F_e.other W2_ (Or.inr (slot_ne (Or.inl (hw _ (List.mem_of_getElem? (i := 67) rfl))) (Or.inl (hw _ (List.mem_of_getElem? (i := 64) rfl))) (by decide) (t := (.array (.object "java/lang/Object"))) (t' := .int) (by decide) (by decide)))
  replace F_s := F_s.other W2_ (Or.inr (slot_ne (Or.inl (hw _ (List.mem_of_getElem? (i := 76) rfl))) (Or.inl (hw _ (List.mem_of_getElem? (i := 64) rfl))) (by decide) (t := .int) (t' := .int) (by decide) (by decide)))
  replace old := old.wr W2_ g_a
  replace E_x := Jvm.RoadKit.Exa.wr W2_ E_x
  replace sz := Nat.le_trans sz (Keep.of_wr W2_).1
  have N2_ := Fr.snoc X2_ N0 g_a
  replace K := K.wr W2_ (Or.inl (List.mem_of_getElem? (i := 0) rfl))
  show Runs p.tables e below _ (T2_.setTop (mkF m 10 #[.val (.ref a), .val (.ref x_)] []))
  refine Runs.st (fun t' k' => XS.aloadN X2_.here hx rfl (hb hby d_jdk_38_method_25_10) rfl rfl k') ?_
  show Runs p.tables e below _ (T2_.setTop (mkF m 11 #[.val (.ref a), .val (.ref x_)] [(.ref a)]))
  refine Runs.st (fun t' k' => XS.aloadN X2_.here hx rfl (hb hby d_jdk_38_method_25_11) rfl rfl k') ?_
  show Runs p.tables e below _ (T2_.setTop (mkF m 12 #[.val (.ref a), .val (.ref x_)] [(.ref x_), (.ref a)]))
  refine Runs.st (fun t' k' => XS.aloadN X2_.here hx rfl (hb hby d_jdk_38_method_25_12) rfl rfl k') ?_
  show Runs p.tables e below _ (T2_.setTop (mkF m 13 #[.val (.ref a), .val (.ref x_)] [(.ref a), (.ref x_), (.ref a)]))
  obtain ⟨T3_, X3_, e3_, st3_⟩ := getF X2_ hx hZ hown (host := "") (Or.inl (hw _ (List.mem_of_getElem? (i := 66) rfl))) Via.refl e2_ F_e (g := (mkF m 13 #[.val (.ref a), .val (.ref x_)] [(.ref a), (.ref x_), (.ref a)])) rfl rfl (hb hby d_jdk_38_method_25_13)
  refine Runs.st (st3_) ?_
  show Runs p.tables e below _ (T3_.setTop (mkF m 16 #[.val (.ref a), .val (.ref x_)] [(.ref d), (.ref x_), (.ref a)]))
  refine Runs.st (fun t' k' => XS.aloadN X3_.here hx rfl (hb hby d_jdk_38_method_25_16) rfl rfl k') ?_
  show Runs p.tables e below _ (T3_.setTop (mkF m 17 #[.val (.ref a), .val (.ref x_)] [(.ref a), (.ref d), (.ref x_), (.ref a)]))
  obtain ⟨T4_, X4_, e4_, st4_⟩ := getF X3_ hx hZ hown (host := "") (Or.inl (hw _ (List.mem_of_getElem? (i := 75) rfl))) Via.refl e3_ F_s (g := (mkF m 17 #[.val (.ref a), .val (.ref x_)] [(.ref a), (.ref d), (.ref x_), (.ref a)])) rfl rfl (hb hby d_jdk_38_method_25_17)
  refine Runs.st (st4_) ?_
  show Runs p.tables e below _ (T4_.setTop (mkF m 20 #[.val (.ref a), .val (.ref x_)] [(.int (0 : Int32)), (.ref d), (.ref x_), (.ref a)]))
  have kz5_ := K.1
  have gz5_ := sz
  have lt5__a := E_a.lt
  have lt5__x_ := E_x.lt
  obtain ⟨cq5_, q5_, q5_'⟩ := E_a.cell
  obtain ⟨_, _, ⟨T5_, L5_, k5_, n5_⟩, -, X5_, ⟨Lc5_, hQ5_, l5_, y5_, z5_⟩, st5_⟩ := X4_.privateBack hx (y := (⟨"java/util/ArrayList", "add", "(Ljava/lang/Object;[Ljava/lang/Object;I)V"⟩ : MethodName)) hown (mvT hZ (hw _ (List.mem_of_getElem? (i := 77) rfl))) (mvT hZ (hw _ (List.mem_of_getElem? (i := 78) rfl))) (mvT hZ (hw _ (List.mem_of_getElem? (i := 80) rfl))) (Cond.privateMethod_at (mvP hZ (hw _ (List.mem_of_getElem? (i := 79) rfl)) (args := #[]))) (mvT hZ (hw _ (List.mem_of_getElem? (i := 81) rfl))) (by decide) (backOf (W := 0) (rmAd l Z a0 hw [] a x_ d kd _ h2_ n0 sz E_a F_e F_s F_m g_a Sd V_d old E_x ne_x__a) hZ (hw _ (List.mem_of_getElem? (i := 81) rfl)) (hw _ (List.mem_of_getElem? (i := 46) rfl)) (by decide) (by decide)) (g := (mkF m 20 #[.val (.ref a), .val (.ref x_)] [(.int (0 : Int32)), (.ref d), (.ref x_), (.ref a)])) rfl (by rw [hml]; rfl) (Steps.refl _) (a := a) (by rw [e4_]; exact q5_) q5_' (argsL := [(.ref x_), (.ref d), (.int (0 : Int32))]) (rest := []) (lenOf pd__28Ljava_2flang_2fObject_3b_5bLjava_2flang_2fObject_3bI_29V rfl) rfl (by show 2 * 0 + _ ≤ _; exact Nat.le_of_eq rfl) (hb hby d_jdk_38_method_25_20) (fun _ _ => ⟨rfl, e4_, (by decide : 0 + 1 ≤ _), (by decide : 0 + 10 ≤ _)⟩)
  dsimp only [Pt.U, Pt.locs, Pt.cells, Pt.slots] at X5_ l5_ y5_ z5_ st5_ hQ5_
  subst l5_ y5_ z5_
  obtain ⟨rfl, N5_q, K5_, E_a, F_s, b, kb, szb, F_e, V_b⟩ := hQ5_
  have N5_ := Fr.app N2_ N5_q
  refine Runs.tr st5_ ?_
  replace X5_ := wider X5_ (c' := 1) (s' := 10) (by decide) (by decide)
  replace old := old.keep K5_ (allS g_a all0)
  replace E_x := E_x.keep K5_
  replace sz := Nat.le_trans sz K5_.1
  replace K := K.trans K5_ (allS (Or.inl (List.mem_of_getElem? (i := 0) rfl)) all0)
  have sz_b : h0.size ≤ b := Nat.le_trans kz5_ szb
  have g_b : n0 ≤ b := Nat.le_trans gz5_ szb
  have ne_a_b : a ≠ b := Nat.ne_of_lt (Nat.lt_of_lt_of_le lt5__a szb)
  have ne_x__b : x_ ≠ b := Nat.ne_of_lt (Nat.lt_of_lt_of_le lt5__x_ szb)
  show Runs p.tables e below _ (T5_.setTop (mkF m 23 #[.val (.ref a), .val (.ref x_)] []))
  refine Runs.st (fun t' k' => XS.iconst X5_.here hx rfl (hb hby d_jdk_38_method_25_23) k') ?_
  show Runs p.tables e below _ (T5_.setTop (mkF m 24 #[.val (.ref a), .val (.ref x_)] [(.int (1 : Int32))]))
  refine Runs.ret X5_ hlk (v := (some (.int (1 : Int32)))) (fun h => by rw [hret] at h; cases h) (by decide) (by decide) ?_ (fun fs hr => retN X5_ hx (t := .boolean) hret (by simp) (hb hby d_jdk_38_method_25_24) hr)
  exact ⟨rfl, N5_, K, E_a, F_s, b, kb, Nat.le_trans kz5_ szb, F_e, V_b⟩
def Q_rmHead (Z : State) (a : Addr) (mt : Addr) (pt : Addr) (sg : Addr) (z10 : Int32)  (h0 : Heap) (n0 : Nat) : Option Value → Heap → List Loc → Prop := (fun v h L => v = none ∧ Fr n0 L ∧ Keep h0 h [a] ∧ Exa Z h a "com/example/occupancy/occupancy/HttpInput$Head" ∧ Fld Z h a "com/example/occupancy/occupancy/HttpInput$Head" "http10" "Z" (.int (nar .boolean z10)) ∧ Fld Z h a "com/example/occupancy/occupancy/HttpInput$Head" "close" "Z" (.int (0 : Int32)))
theorem pn_com_example_occupancy_occupancy_HttpInput_Head : plainName "com/example/occupancy/occupancy/HttpInput$Head" = true := by first | (simp [plainName, overriddenIn]; done) | decide +kernel
theorem ef_prog_8_method_1_RRRRI (m : MethodId) (x0 : Addr) (x1 : Addr) (x2 : Addr) (x3 : Addr) (x4 : Int32)  : entryFrame m #[(.ref x0), (.ref x1), (.ref x2), (.ref x3), (.int x4)] 5 = mkF m 0 #[.val (.ref x0), .val (.ref x1), .val (.ref x2), .val (.ref x3), .val (.int x4)] [] := by first | (simp [entryFrame, mkF, argsToLocals, Value.category]; done) | rfl
theorem d_prog_8_method_1_0 : decode prog_8_method_1_code 0 = .ok (.aload_n 0, 1) := by decide +kernel
theorem d_prog_8_method_1_1 : decode prog_8_method_1_code 1 = .ok (.invokespecial 1, 3) := by decide +kernel
theorem d_prog_8_method_1_4 : decode prog_8_method_1_code 4 = .ok (.aload_n 0, 1) := by decide +kernel
theorem d_prog_8_method_1_5 : decode prog_8_method_1_code 5 = .ok (.ldc2_w 7, 3) := by decide +kernel
theorem d_prog_8_method_1_8 : decode prog_8_method_1_code 8 = .ok (.putfield 9, 3) := by decide +kernel
theorem d_prog_8_method_1_11 : decode prog_8_method_1_code 11 = .ok (.aload_n 0, 1) := by decide +kernel
theorem d_prog_8_method_1_12 : decode prog_8_method_1_code 12 = .ok (.aload_n 1, 1) := by decide +kernel
theorem d_prog_8_method_1_13 : decode prog_8_method_1_code 13 = .ok (.putfield 15, 3) := by decide +kernel
theorem d_prog_8_method_1_16 : decode prog_8_method_1_code 16 = .ok (.aload_n 0, 1) := by decide +kernel
theorem d_prog_8_method_1_17 : decode prog_8_method_1_code 17 = .ok (.aload_n 2, 1) := by decide +kernel
theorem d_prog_8_method_1_18 : decode prog_8_method_1_code 18 = .ok (.putfield 19, 3) := by decide +kernel
theorem d_prog_8_method_1_21 : decode prog_8_method_1_code 21 = .ok (.aload_n 0, 1) := by decide +kernel
theorem d_prog_8_method_1_22 : decode prog_8_method_1_code 22 = .ok (.aload_n 3, 1) := by decide +kernel
theorem d_prog_8_method_1_23 : decode prog_8_method_1_code 23 = .ok (.putfield 22, 3) := by decide +kernel
theorem d_prog_8_method_1_26 : decode prog_8_method_1_code 26 = .ok (.aload_n 0, 1) := by decide +kernel
theorem d_prog_8_method_1_27 : decode prog_8_method_1_code 27 = .ok (.iload 4, 2) := by decide +kernel
theorem d_prog_8_method_1_29 : decode prog_8_method_1_code 29 = .ok (.putfield 26, 3) := by decide +kernel
theorem d_prog_8_method_1_32 : decode prog_8_method_1_code 32 = .ok (.return_, 1) := by decide +kernel
set_option maxRecDepth 65536 in
set_option maxHeartbeats 40000000 in
theorem rmHead (l : Launch) (Z : State) (a0 : Array Value) (hw : ∀ d ∈ tables_1, d.before a0 Z = true) (ws : List Jvm.Cond) (a : Addr) (mt : Addr) (pt : Addr) (sg : Addr) (z10 : Int32)  (h0 : Heap) (n0 : Nat) (Z0 : n0 ≤ h0.size) (E_a : Exa Z h0 a "com/example/occupancy/occupancy/HttpInput$Head") (F_length : Fld Z h0 a "com/example/occupancy/occupancy/HttpInput$Head" "length" "J" (.long (0 : Int64))) (F_method : Fld Z h0 a "com/example/occupancy/occupancy/HttpInput$Head" "method" "Ljava/lang/String;" .null) (F_path : Fld Z h0 a "com/example/occupancy/occupancy/HttpInput$Head" "path" "Ljava/lang/String;" .null) (F_segments : Fld Z h0 a "com/example/occupancy/occupancy/HttpInput$Head" "segments" "Ljava/util/List;" .null) (F_http10 : Fld Z h0 a "com/example/occupancy/occupancy/HttpInput$Head" "http10" "Z" (.int (0 : Int32))) (F_close : Fld Z h0 a "com/example/occupancy/occupancy/HttpInput$Head" "close" "Z" (.int (0 : Int32))) (g_a : n0 ≤ a) :
    MetFree l (⟨"com/example/occupancy/occupancy/HttpInput$Head", "<init>", "(Ljava/lang/String;Ljava/lang/String;Ljava/util/List;Z)V"⟩ : MethodName) (head1 (Jvm.Cond.code (⟨"com/example/occupancy/occupancy/HttpInput$Head", "<init>", "(Ljava/lang/String;Ljava/lang/String;Ljava/util/List;Z)V"⟩ : MethodName) prog_8_method_1_code 5 none :: ws) ({ frames := 1, cells := 0, slots := 0, locals := 12 } : Room)) (fun ar_ U => ar_ = #[(.ref a), (.ref mt), (.ref pt), (.ref sg), (.int z10)] ∧ Z.Warmed39 U.vm ∧ U.heap = h0) (fun _ _ _ _ _ => True) (fun _ U o U' => Phi U (Q_rmHead Z a mt pt sg z10 h0 n0) ({ frames := 1, cells := 0, slots := 0, locals := 12 } : Room).cells ({ frames := 1, cells := 0, slots := 0, locals := 12 } : Room).slots o U') := by
  refine MetFree.of_bodySF (plainFor_of_name pn_com_example_occupancy_occupancy_HttpInput_Head) hisR ?_
  intro p e s m args below meth c s₁ Bd hml0 hP hK
  obtain ⟨rfl, hZ, hh⟩ := hP
  have hx := Bd.exec
  have hby := Bd.bytes
  have hlk := Bd.notSynchronized
  have hml : c.maxLocals = 5 := hml0
  have hown : s.vm.findClass "com/example/occupancy/occupancy/HttpInput$Head" = some m.cls := findClass_of_methodNamed Bd.named
  have hown0 := hown
  have hnm := (name_of_methodNamed Bd.named Bd.method).1
  have hret := Bd.returns
  have X0 : Stand p l e ({ frames := 1, cells := 0, slots := 0, locals := 12 } : Room) s m #[(.ref a), (.ref mt), (.ref pt), (.ref sg), (.int z10)] below meth c s₁ [] 0 0 := Stand.of_body Bd
  have e0 : s₁.heap = h0 := by rw [← hh, Bd.state]; rfl
  have N0 := Fr.nil n0
  have sz := Z0
  have K := Keep.refl h0 [a]
  show Runs p.tables e below (Phi s (Q_rmHead Z a mt pt sg z10 h0 n0) ({ frames := 1, cells := 0, slots := 0, locals := 12 } : Room).cells ({ frames := 1, cells := 0, slots := 0, locals := 12 } : Room).slots) _
  refine Runs.st (fun t' k' => castTop (ef_prog_8_method_1_RRRRI m a mt pt sg z10 ) k') ?_
  show Runs p.tables e below _ (s₁.setTop (mkF m 0 #[.val (.ref a), .val (.ref mt), .val (.ref pt), .val (.ref sg), .val (.int z10)] []))
  refine Runs.st (fun t' k' => XS.aloadN X0.here hx rfl (hb hby d_prog_8_method_1_0) rfl rfl k') ?_
  show Runs p.tables e below _ (s₁.setTop (mkF m 1 #[.val (.ref a), .val (.ref mt), .val (.ref pt), .val (.ref sg), .val (.int z10)] [(.ref a)]))
  obtain ⟨T1_, X1_, e1_, st1_⟩ := initO X0 hx hZ hown (hw _ (List.mem_of_getElem? (i := 105) rfl)) (hw _ (List.mem_of_getElem? (i := 12) rfl)) (hw _ (List.mem_of_getElem? (i := 13) rfl)) e0 (g := (mkF m 1 #[.val (.ref a), .val (.ref mt), .val (.ref pt), .val (.ref sg), .val (.int z10)] [(.ref a)])) rfl (by rw [hml]; rfl) rfl (hb hby d_prog_8_method_1_1) (by decide) (W := 0) (by show 2 * 0 + _ ≤ _; exact Nat.le_of_eq rfl) (by decide)
  refine Runs.st (st1_) ?_
  show Runs p.tables e below _ (T1_.setTop (mkF m 4 #[.val (.ref a), .val (.ref mt), .val (.ref pt), .val (.ref sg), .val (.int z10)] []))
  refine Runs.st (fun t' k' => XS.aloadN X1_.here hx rfl (hb hby d_prog_8_method_1_4) rfl rfl k') ?_
  show Runs p.tables e below _ (T1_.setTop (mkF m 5 #[.val (.ref a), .val (.ref mt), .val (.ref pt), .val (.ref sg), .val (.int z10)] [(.ref a)]))
  refine Runs.st (fun t' k' => X1_.ldc2Long hx hown (mvT hZ (hw _ (List.mem_of_getElem? (i := 106) rfl))) (g := (mkF m 5 #[.val (.ref a), .val (.ref mt), .val (.ref pt), .val (.ref sg), .val (.int z10)] [(.ref a)])) rfl (hb hby d_prog_8_method_1_5) t' k') ?_
  show Runs p.tables e below _ (T1_.setTop (mkF m 8 #[.val (.ref a), .val (.ref mt), .val (.ref pt), .val (.ref sg), .val (.int z10)] [(.long (-1 : Int64)), (.ref a)]))
  obtain ⟨T2_, h2_, X2_, e2_, W2_, st2_⟩ := putF X1_ hx hZ hown (host := "") (Or.inl (hw _ (List.mem_of_getElem? (i := 107) rfl))) Via.refl e1_ F_length E_a (Or.inl (hw _ (List.mem_of_getElem? (i := 108) rfl))) (hw _ (List.mem_of_getElem? (i := 100) rfl)) (ty := .long) (by decide) rfl rfl (g := (mkF m 8 #[.val (.ref a), .val (.ref mt), .val (.ref pt), .val (.ref sg), .val (.int z10)] [(.long (-1 : Int64)), (.ref a)])) rfl rfl (hb hby d_prog_8_method_1_8)
  refine Runs.st (st2_) ?_
  replace F_length := F_length.same W2_
  replace E_a := Jvm.RoadKit.Exa.wr W2_ E_a
  replace F_method := F_method.other W2_ (Or.inr (slot_ne (Or.inr (hw _ (List.mem_of_getElem? (i := 110) rfl))) (Or.inl (hw _ (List.mem_of_getElem? (i := 108) rfl))) (by decide) (t := (.object "java/lang/String")) (t' := .long) (by decide) (by decide)))
  replace F_path := F_path.other W2_ (Or.inr (slot_ne (Or.inr (hw _ (List.mem_of_getElem? (i := 112) rfl))) (Or.inl (hw _ (List.mem_of_getElem? (i := 108) rfl))) (by decide) (t := (.object "java/lang/String")) (t' := .long) (by decide) (by decide)))
  replace F_segments := F_segments.other W2_ (Or.inr (slot_ne (Or.inr (hw _ (List.mem_of_getElem? (i := 114) rfl))) (Or.inl (hw _ (List.mem_of_getElem? (i := 108) rfl))) (by decide) (t := (.object "java/util/List")) (t' := .long) (by decide) (by decide)))
  replace F_http10 := F_http10.other W2_ (Or.inr (slot_ne (Or.inr (hw _ (List.mem_of_getElem? (i := 116) rfl))) (Or.inl (hw _ (List.mem_of_getElem? (i := 108) rfl))) (by decide) (t := .boolean) (t' := .long) (by decide) (by decide)))
  replace F_close := F_close.other W2_ (Or.inr (slot_ne (Or.inl (hw _ (List.mem_of_getElem? (i := 123) rfl))) (Or.inl (hw _ (List.mem_of_getElem? (i := 108) rfl))) (by decide) (t := .boolean) (t' := .long) (by decide) (by decide)))
  replace sz := Nat.le_trans sz (Keep.of_wr W2_).1
  have N2_ := Fr.snoc X2_ N0 g_a
  replace K := K.wr W2_ (Or.inl (List.mem_of_getElem? (i := 0) rfl))
  show Runs p.tables e below _ (T2_.setTop (mkF m 11 #[.val (.ref a), .val (.ref mt), .val (.ref pt), .val (.ref sg), .val (.int z10)] []))
  refine Runs.st (fun t' k' => XS.aloadN X2_.here hx rfl (hb hby d_prog_8_method_1_11) rfl rfl k') ?_
  show Runs p.tables e below _ (T2_.setTop (mkF m 12 #[.val (.ref a), .val (.ref mt), .val (.ref pt), .val (.ref sg), .val (.int z10)] [(.ref a)]))
  refine Runs.st (fun t' k' => XS.aloadN X2_.here hx rfl (hb hby d_prog_8_method_1_12) rfl rfl k') ?_
  show Runs p.tables e below _ (T2_.setTop (mkF m 13 #[.val (.ref a), .val (.ref mt), .val (.ref pt), .val (.ref sg), .val (.int z10)] [(.ref mt), (.ref a)]))
  obtain ⟨T3_, h3_, X3_, e3_, W3_, st3_⟩ := putF X2_ hx hZ hown (host := "") (Or.inl (hw _ (List.mem_of_getElem? (i := 109) rfl))) Via.refl e2_ F_method E_a (Or.inr ⟨(hw _ (List.mem_of_getElem? (i := 110) rfl)), rfl, hnm⟩) (hw _ (List.mem_of_getElem? (i := 100) rfl)) (ty := (.object "java/lang/String")) (by decide) rfl rfl (g := (mkF m 13 #[.val (.ref a), .val (.ref mt), .val (.ref pt), .val (.ref sg), .val (.int z10)] [(.ref mt), (.ref a)])) rfl rfl (hb hby d_prog_8_method_1_13)
  refine Runs.st (st3_) ?_
  replace F_method := F_method.same W3_
  replace E_a := Jvm.RoadKit.Exa.wr W3_ E_a
  replace F_path := F_path.other W3_ (Or.inr (slot_ne (Or.inr (hw _ (List.mem_of_getElem? (i := 112) rfl))) (Or.inr (hw _ (List.mem_of_getElem? (i := 110) rfl))) (by decide) (t := (.object "java/lang/String")) (t' := (.object "java/lang/String")) (by decide) (by decide)))
  replace F_segments := F_segments.other W3_ (Or.inr (slot_ne (Or.inr (hw _ (List.mem_of_getElem? (i := 114) rfl))) (Or.inr (hw _ (List.mem_of_getElem? (i := 110) rfl))) (by decide) (t := (.object "java/util/List")) (t' := (.object "java/lang/String")) (by decide) (by decide)))
  replace F_http10 := F_http10.other W3_ (Or.inr (slot_ne (Or.inr (hw _ (List.mem_of_getElem? (i := 116) rfl))) (Or.inr (hw _ (List.mem_of_getElem? (i := 110) rfl))) (by decide) (t := .boolean) (t' := (.object "java/lang/String")) (by decide) (by decide)))
  replace F_close := F_close.other W3_ (Or.inr (slot_ne (Or.inl (hw _ (List.mem_of_getElem? (i := 123) rfl))) (Or.inr (hw _ (List.mem_of_getElem? (i := 110) rfl))) (by decide) (t := .boolean) (t' := (.object "java/lang/String")) (by decide) (by decide)))
  replace F_length := F_length.other W3_ (Or.inr (slot_ne (Or.inl (hw _ (List.mem_of_getElem? (i := 108) rfl))) (Or.inr (hw _ (List.mem_of_getElem? (i := 110) rfl))) (by decide) (t := .long) (t' := (.object "java/lang/String")) (by decide) (by decide)))
  replace sz := Nat.le_trans sz (Keep.of_wr W3_).1
  have N3_ := Fr.snoc X3_ N2_ g_a
  replace K := K.wr W3_ (Or.inl (List.mem_of_getElem? (i := 0) rfl))
  show Runs p.tables e below _ (T3_.setTop (mkF m 16 #[.val (.ref a), .val (.ref mt), .val (.ref pt), .val (.ref sg), .val (.int z10)] []))
  refine Runs.st (fun t' k' => XS.aloadN X3_.here hx rfl (hb hby d_prog_8_method_1_16) rfl rfl k') ?_
  show Runs p.tables e below _ (T3_.setTop (mkF m 17 #[.val (.ref a), .val (.ref mt), .val (.ref pt), .val (.ref sg), .val (.int z10)] [(.ref a)]))
  refine Runs.st (fun t' k' => XS.aloadN X3_.here hx rfl (hb hby d_prog_8_method_1_17) rfl rfl k') ?_
  show Runs p.tables e below _ (T3_.setTop (mkF m 18 #[.val (.ref a), .val (.ref mt), .val (.ref pt), .val (.ref sg), .val (.int z10)] [(.ref pt), (.ref a)]))
  obtain ⟨T4_, h4_, X4_, e4_, W4_, st4_⟩ := putF X3_ hx hZ hown (host := "") (Or.inl (hw _ (List.mem_of_getElem? (i := 111) rfl))) Via.refl e3_ F_path E_a (Or.inr ⟨(hw _ (List.mem_of_getElem? (i := 112) rfl)), rfl, hnm⟩) (hw _ (List.mem_of_getElem? (i := 100) rfl)) (ty := (.object "java/lang/String")) (by decide) rfl rfl (g := (mkF m 18 #[.val (.ref a), .val (.ref mt), .val (.ref pt), .val (.ref sg), .val (.int z10)] [(.ref pt), (.ref a)])) rfl rfl (hb hby d_prog_8_method_1_18)
  refine Runs.st (st4_) ?_
  replace F_path := F_path.same W4_
  replace E_a := Jvm.RoadKit.Exa.wr W4_ E_a
  replace F_segments := F_segments.other W4_ (Or.inr (slot_ne (Or.inr (hw _ (List.mem_of_getElem? (i := 114) rfl))) (Or.inr (hw _ (List.mem_of_getElem? (i := 112) rfl))) (by decide) (t := (.object "java/util/List")) (t' := (.object "java/lang/String")) (by decide) (by decide)))
  replace F_http10 := F_http10.other W4_ (Or.inr (slot_ne (Or.inr (hw _ (List.mem_of_getElem? (i := 116) rfl))) (Or.inr (hw _ (List.mem_of_getElem? (i := 112) rfl))) (by decide) (t := .boolean) (t' := (.object "java/lang/String")) (by decide) (by decide)))
  replace F_close := F_close.other W4_ (Or.inr (slot_ne (Or.inl (hw _ (List.mem_of_getElem? (i := 123) rfl))) (Or.inr (hw _ (List.mem_of_getElem? (i := 112) rfl))) (by decide) (t := .boolean) (t' := (.object "java/lang/String")) (by decide) (by decide)))
  replace F_length := F_length.other W4_ (Or.inr (slot_ne (Or.inl (hw _ (List.mem_of_getElem? (i := 108) rfl))) (Or.inr (hw _ (List.mem_of_getElem? (i := 112) rfl))) (by decide) (t := .long) (t' := (.object "java/lang/String")) (by decide) (by decide)))
  replace F_method := F_method.other W4_ (Or.inr (slot_ne (Or.inr (hw _ (List.mem_of_getElem? (i := 110) rfl))) (Or.inr (hw _ (List.mem_of_getElem? (i := 112) rfl))) (by decide) (t := (.object "java/lang/String")) (t' := (.object "java/lang/String")) (by decide) (by decide)))
  replace sz := Nat.le_trans sz (Keep.of_wr W4_).1
  have N4_ := Fr.snoc X4_ N3_ g_a
  replace K := K.wr W4_ (Or.inl (List.mem_of_getElem? (i := 0) rfl))
  show Runs p.tables e below _ (T4_.setTop (mkF m 21 #[.val (.ref a), .val (.ref mt), .val (.ref pt), .val (.ref sg), .val (.int z10)] []))
  refine Runs.st (fun t' k' => XS.aloadN X4_.here hx rfl (hb hby d_prog_8_method_1_21) rfl rfl k') ?_
  show Runs p.tables e below _ (T4_.setTop (mkF m 22 #[.val (.ref a), .val (.ref mt), .val (.ref pt), .val (.ref sg), .val (.int z10)] [(.ref a)]))
  refine Runs.st (fun t' k' => XS.aloadN X4_.here hx rfl (hb hby d_prog_8_method_1_22) rfl rfl k') ?_
  show Runs p.tables e below _ (T4_.setTop (mkF m 23 #[.val (.ref a), .val (.ref mt), .val (.ref pt), .val (.ref sg), .val (.int z10)] [(.ref sg), (.ref a)]))
  obtain ⟨T5_, h5_, X5_, e5_, W5_, st5_⟩ := putF X4_ hx hZ hown (host := "") (Or.inl (hw _ (List.mem_of_getElem? (i := 113) rfl))) Via.refl e4_ F_segments E_a (Or.inr ⟨(hw _ (List.mem_of_getElem? (i := 114) rfl)), rfl, hnm⟩) (hw _ (List.mem_of_getElem? (i := 100) rfl)) (ty := (.object "java/util/List")) (by decide) rfl rfl (g := (mkF m 23 #[.val (.ref a), .val (.ref mt), .val (.ref pt), .val (.ref sg), .val (.int z10)] [(.ref sg), (.ref a)])) rfl rfl (hb hby d_prog_8_method_1_23)
  refine Runs.st (st5_) ?_
  replace F_segments := F_segments.same W5_
  replace E_a := Jvm.RoadKit.Exa.wr W5_ E_a
  replace F_http10 := F_http10.other W5_ (Or.inr (slot_ne (Or.inr (hw _ (List.mem_of_getElem? (i := 116) rfl))) (Or.inr (hw _ (List.mem_of_getElem? (i := 114) rfl))) (by decide) (t := .boolean) (t' := (.object "java/util/List")) (by decide) (by decide)))
  replace F_close := F_close.other W5_ (Or.inr (slot_ne (Or.inl (hw _ (List.mem_of_getElem? (i := 123) rfl))) (Or.inr (hw _ (List.mem_of_getElem? (i := 114) rfl))) (by decide) (t := .boolean) (t' := (.object "java/util/List")) (by decide) (by decide)))
  replace F_length := F_length.other W5_ (Or.inr (slot_ne (Or.inl (hw _ (List.mem_of_getElem? (i := 108) rfl))) (Or.inr (hw _ (List.mem_of_getElem? (i := 114) rfl))) (by decide) (t := .long) (t' := (.object "java/util/List")) (by decide) (by decide)))
  replace F_method := F_method.other W5_ (Or.inr (slot_ne (Or.inr (hw _ (List.mem_of_getElem? (i := 110) rfl))) (Or.inr (hw _ (List.mem_of_getElem? (i := 114) rfl))) (by decide) (t := (.object "java/lang/String")) (t' := (.object "java/util/List")) (by decide) (by decide)))
  replace F_path := F_path.other W5_ (Or.inr (slot_ne (Or.inr (hw _ (List.mem_of_getElem? (i := 112) rfl))) (Or.inr (hw _ (List.mem_of_getElem? (i := 114) rfl))) (by decide) (t := (.object "java/lang/String")) (t' := (.object "java/util/List")) (by decide) (by decide)))
  replace sz := Nat.le_trans sz (Keep.of_wr W5_).1
  have N5_ := Fr.snoc X5_ N4_ g_a
  replace K := K.wr W5_ (Or.inl (List.mem_of_getElem? (i := 0) rfl))
  show Runs p.tables e below _ (T5_.setTop (mkF m 26 #[.val (.ref a), .val (.ref mt), .val (.ref pt), .val (.ref sg), .val (.int z10)] []))
  refine Runs.st (fun t' k' => XS.aloadN X5_.here hx rfl (hb hby d_prog_8_method_1_26) rfl rfl k') ?_
  show Runs p.tables e below _ (T5_.setTop (mkF m 27 #[.val (.ref a), .val (.ref mt), .val (.ref pt), .val (.ref sg), .val (.int z10)] [(.ref a)]))
  refine Runs.st (fun t' k' => XS.iload X5_.here hx rfl (hb hby d_prog_8_method_1_27) rfl k') ?_
  show Runs p.tables e below _ (T5_.setTop (mkF m 29 #[.val (.ref a), .val (.ref mt), .val (.ref pt), .val (.ref sg), .val (.int z10)] [(.int z10), (.ref a)]))
  obtain ⟨T6_, h6_, X6_, e6_, W6_, st6_⟩ := putFN X5_ hx hZ hown (hw _ (List.mem_of_getElem? (i := 115) rfl)) Via.refl e5_ F_http10 E_a (Or.inr ⟨(hw _ (List.mem_of_getElem? (i := 116) rfl)), rfl, hnm⟩) (hw _ (List.mem_of_getElem? (i := 100) rfl)) (ty := .boolean) (v' := .int (nar .boolean z10)) (by decide) rfl (fits_nar_bool _) (g := (mkF m 29 #[.val (.ref a), .val (.ref mt), .val (.ref pt), .val (.ref sg), .val (.int z10)] [(.int z10), (.ref a)])) rfl rfl (hb hby d_prog_8_method_1_29)
  refine Runs.st (st6_) ?_
  replace F_http10 := F_http10.same W6_
  replace E_a := Jvm.RoadKit.Exa.wr W6_ E_a
  replace F_close := F_close.other W6_ (Or.inr (slot_ne (Or.inl (hw _ (List.mem_of_getElem? (i := 123) rfl))) (Or.inr (hw _ (List.mem_of_getElem? (i := 116) rfl))) (by decide) (t := .boolean) (t' := .boolean) (by decide) (by decide)))
  replace F_length := F_length.other W6_ (Or.inr (slot_ne (Or.inl (hw _ (List.mem_of_getElem? (i := 108) rfl))) (Or.inr (hw _ (List.mem_of_getElem? (i := 116) rfl))) (by decide) (t := .long) (t' := .boolean) (by decide) (by decide)))
  replace F_method := F_method.other W6_ (Or.inr (slot_ne (Or.inr (hw _ (List.mem_of_getElem? (i := 110) rfl))) (Or.inr (hw _ (List.mem_of_getElem? (i := 116) rfl))) (by decide) (t := (.object "java/lang/String")) (t' := .boolean) (by decide) (by decide)))
  replace F_path := F_path.other W6_ (Or.inr (slot_ne (Or.inr (hw _ (List.mem_of_getElem? (i := 112) rfl))) (Or.inr (hw _ (List.mem_of_getElem? (i := 116) rfl))) (by decide) (t := (.object "java/lang/String")) (t' := .boolean) (by decide) (by decide)))
  replace F_segments := F_segments.other W6_ (Or.inr (slot_ne (Or.inr (hw _ (List.mem_of_getElem? (i := 114) rfl))) (Or.inr (hw _ (List.mem_of_getElem? (i := 116) rfl))) (by decide) (t := (.object "java/util/List")) (t' := .boolean) (by decide) (by decide)))
  replace sz := Nat.le_trans sz (Keep.of_wr W6_).1
  have N6_ := Fr.snoc X6_ N5_ g_a
  replace K := K.wr W6_ (Or.inl (List.mem_of_getElem? (i := 0) rfl))
  show Runs p.tables e below _ (T6_.setTop (mkF m 32 #[.val (.ref a), .val (.ref mt), .val (.ref pt), .val (.ref sg), .val (.int z10)] []))
  refine Runs.ret X6_ hlk (v := none) (fun _ => rfl) (by decide) (by decide) ?_ (fun fs hr => X6_.returnOut hx hret (hb hby d_prog_8_method_1_32) hr)
  try rw [e6_]
  exact ⟨rfl, N6_, K, E_a, F_http10, F_close⟩
def Q_rmClo (Z : State) (a : Addr) (r : Int32) (h0 : Heap) (n0 : Nat) : Option Value → Heap → List Loc → Prop := (fun v h L => v = some (.int r) ∧ Fr n0 L ∧ h = h0)
theorem ef_prog_8_method_5_R (m : MethodId) (x0 : Addr)  : entryFrame m #[(.ref x0)] 1 = mkF m 0 #[.val (.ref x0)] [] := by first | (simp [entryFrame, mkF, argsToLocals, Value.category]; done) | rfl
theorem d_prog_8_method_5_0 : decode prog_8_method_5_code 0 = .ok (.aload_n 0, 1) := by decide +kernel
theorem d_prog_8_method_5_1 : decode prog_8_method_5_code 1 = .ok (.getfield 30, 3) := by decide +kernel
theorem d_prog_8_method_5_4 : decode prog_8_method_5_code 4 = .ok (.ifCond .ne 10, 3) := by decide +kernel
theorem d_prog_8_method_5_7 : decode prog_8_method_5_code 7 = .ok (.aload_n 0, 1) := by decide +kernel
theorem d_prog_8_method_5_8 : decode prog_8_method_5_code 8 = .ok (.getfield 26, 3) := by decide +kernel
theorem d_prog_8_method_5_11 : decode prog_8_method_5_code 11 = .ok (.ifCond .eq 7, 3) := by decide +kernel
theorem d_prog_8_method_5_18 : decode prog_8_method_5_code 18 = .ok (.iconst 0, 1) := by decide +kernel
theorem d_prog_8_method_5_19 : decode prog_8_method_5_code 19 = .ok (.ireturn, 1) := by decide +kernel
theorem d_prog_8_method_5_14 : decode prog_8_method_5_code 14 = .ok (.iconst 1, 1) := by decide +kernel
theorem d_prog_8_method_5_15 : decode prog_8_method_5_code 15 = .ok (.goto 4, 3) := by decide +kernel
set_option maxRecDepth 65536 in
set_option maxHeartbeats 40000000 in
theorem rmClo (l : Launch) (Z : State) (a0 : Array Value) (hw : ∀ d ∈ tables_1, d.before a0 Z = true) (ws : List Jvm.Cond) (a : Addr) (r : Int32) (h0 : Heap) (n0 : Nat) (Z0 : n0 ≤ h0.size) (F1 : Fld Z h0 a "com/example/occupancy/occupancy/HttpInput$Head" "close" "Z" (.int (0 : Int32))) (F2 : Fld Z h0 a "com/example/occupancy/occupancy/HttpInput$Head" "http10" "Z" (.int r)) (hr : r = 0 ∨ r = 1) :
    MetFree l (⟨"com/example/occupancy/occupancy/HttpInput$Head", "closes", "()Z"⟩ : MethodName) (head1 (Jvm.Cond.code (⟨"com/example/occupancy/occupancy/HttpInput$Head", "closes", "()Z"⟩ : MethodName) prog_8_method_5_code 1 (some .boolean) :: ws) ({ frames := 0, cells := 0, slots := 0, locals := 0 } : Room)) (fun ar_ U => ar_ = #[(.ref a)] ∧ Z.Warmed39 U.vm ∧ U.heap = h0) (fun _ _ _ _ _ => True) (fun _ U o U' => Phi U (Q_rmClo Z a r h0 n0) ({ frames := 0, cells := 0, slots := 0, locals := 0 } : Room).cells ({ frames := 0, cells := 0, slots := 0, locals := 0 } : Room).slots o U') := by
  refine MetFree.of_bodySF (plainFor_of_name pn_com_example_occupancy_occupancy_HttpInput_Head) hisR ?_
  intro p e s m args below meth c s₁ Bd hml0 hP hK
  obtain ⟨rfl, hZ, hh⟩ := hP
  have hx := Bd.exec
  have hby := Bd.bytes
  have hlk := Bd.notSynchronized
  have hml : c.maxLocals = 1 := hml0
  have hown : s.vm.findClass "com/example/occupancy/occupancy/HttpInput$Head" = some m.cls := findClass_of_methodNamed Bd.named
  have hown0 := hown
  have hnm := (name_of_methodNamed Bd.named Bd.method).1
  have hret := Bd.returns
  have X0 : Stand p l e ({ frames := 0, cells := 0, slots := 0, locals := 0 } : Room) s m #[(.ref a)] below meth c s₁ [] 0 0 := Stand.of_body Bd
  have e0 : s₁.heap = h0 := by rw [← hh, Bd.state]; rfl
  have N0 := Fr.nil n0
  have sz := Z0
  have K := Keep.refl h0 []
  show Runs p.tables e below (Phi s (Q_rmClo Z a r h0 n0) ({ frames := 0, cells := 0, slots := 0, locals := 0 } : Room).cells ({ frames := 0, cells := 0, slots := 0, locals := 0 } : Room).slots) _
  refine Runs.st (fun t' k' => castTop (ef_prog_8_method_5_R m a ) k') ?_
  show Runs p.tables e below _ (s₁.setTop (mkF m 0 #[.val (.ref a)] []))
  refine Runs.st (fun t' k' => XS.aloadN X0.here hx rfl (hb hby d_prog_8_method_5_0) rfl rfl k') ?_
  show Runs p.tables e below _ (s₁.setTop (mkF m 1 #[.val (.ref a)] [(.ref a)]))
  obtain ⟨T1_, X1_, e1_, st1_⟩ := getF X0 hx hZ hown (host := "") (Or.inl (hw _ (List.mem_of_getElem? (i := 122) rfl))) Via.refl e0 F1 (g := (mkF m 1 #[.val (.ref a)] [(.ref a)])) rfl rfl (hb hby d_prog_8_method_5_1)
  refine Runs.st (st1_) ?_
  show Runs p.tables e below _ (T1_.setTop (mkF m 4 #[.val (.ref a)] [(.int (0 : Int32))]))
  refine Runs.st (fun t' k' => XS.ifNo X1_.here hx rfl (hb hby d_prog_8_method_5_4) rfl ((if0 _ _).trans (teq rfl).2) k') ?_
  show Runs p.tables e below _ (T1_.setTop (mkF m 7 #[.val (.ref a)] []))
  refine Runs.st (fun t' k' => XS.aloadN X1_.here hx rfl (hb hby d_prog_8_method_5_7) rfl rfl k') ?_
  show Runs p.tables e below _ (T1_.setTop (mkF m 8 #[.val (.ref a)] [(.ref a)]))
  obtain ⟨T2_, X2_, e2_, st2_⟩ := getF X1_ hx hZ hown (host := "") (Or.inl (hw _ (List.mem_of_getElem? (i := 115) rfl))) Via.refl e1_ F2 (g := (mkF m 8 #[.val (.ref a)] [(.ref a)])) rfl rfl (hb hby d_prog_8_method_5_8)
  refine Runs.st (st2_) ?_
  show Runs p.tables e below _ (T2_.setTop (mkF m 11 #[.val (.ref a)] [(.int r)]))
  by_cases c : r = (0 : Int32)
  · skip
    refine Runs.st (fun t' k' => XS.ifYes X2_.here hx rfl (pc0 := 11) (pc' := 18) rfl (hb hby d_prog_8_method_5_11) rfl ((if0 _ _).trans (teq c).1) (by decide) (by decide) k') ?_
    show Runs p.tables e below _ (T2_.setTop (mkF m 18 #[.val (.ref a)] []))
    refine Runs.st (fun t' k' => XS.iconst X2_.here hx rfl (hb hby d_prog_8_method_5_18) k') ?_
    show Runs p.tables e below _ (T2_.setTop (mkF m 19 #[.val (.ref a)] [(.int (0 : Int32))]))
    refine Runs.ret X2_ hlk (v := (some (.int (0 : Int32)))) (fun h => by rw [hret] at h; cases h) (by decide) (by decide) ?_ (fun fs hr => retN X2_ hx (t := .boolean) hret (by simp) (hb hby d_prog_8_method_5_19) hr)
    try rw [e2_]
    exact ⟨congrArg (fun z => some (Value.int z)) c.symm, N0, rfl⟩
  · skip
    refine Runs.st (fun t' k' => XS.ifNo X2_.here hx rfl (hb hby d_prog_8_method_5_11) rfl ((if0 _ _).trans (feq c).1) k') ?_
    show Runs p.tables e below _ (T2_.setTop (mkF m 14 #[.val (.ref a)] []))
    refine Runs.st (fun t' k' => XS.iconst X2_.here hx rfl (hb hby d_prog_8_method_5_14) k') ?_
    show Runs p.tables e below _ (T2_.setTop (mkF m 15 #[.val (.ref a)] [(.int (1 : Int32))]))
    refine Runs.st (fun t' k' => XS.goto X2_.here hx rfl (pc0 := 15) (pc' := 19) rfl (hb hby d_prog_8_method_5_15) (by decide) (by decide) k') ?_
    show Runs p.tables e below _ (T2_.setTop (mkF m 19 #[.val (.ref a)] [(.int (1 : Int32))]))
    refine Runs.ret X2_ hlk (v := (some (.int (1 : Int32)))) (fun h => by rw [hret] at h; cases h) (by decide) (by decide) ?_ (fun fs hr => retN X2_ hx (t := .boolean) hret (by simp) (hb hby d_prog_8_method_5_19) hr)
    try rw [e2_]
    exact ⟨congrArg (fun z => some (Value.int z)) (hr.resolve_left c).symm, N0, rfl⟩
theorem pn_com_example_occupancy_occupancy_HttpInputClosesPinLaw : plainName "com/example/occupancy/occupancy/HttpInputClosesPinLaw" = true := by first | (simp [plainName, overriddenIn]; done) | decide +kernel
theorem ef_0_III (m : MethodId) (x0 : Int32) (x1 : Int32) (x2 : Int32)  : entryFrame m #[(.int x0), (.int x1), (.int x2)] maxLocals = mkF m 0 #[.val (.int x0), .val (.int x1), .val (.int x2), .unset, .unset, .unset, .unset, .unset, .unset, .unset, .unset] [] := by first | (simp [entryFrame, mkF, argsToLocals, Value.category, maxLocals]; done) | rfl
theorem pd__28_5bC_29V : parseMethodDescriptor "([C)V" = some ⟨[(.array .char)], none⟩ := by decide +kernel
theorem pd__28C_29Ljava_2flang_2fString_3b : parseMethodDescriptor "(C)Ljava/lang/String;" = some ⟨[.char], some (.object "java/lang/String")⟩ := by decide +kernel
theorem pd__28Ljava_2flang_2fObject_3b_29Z : parseMethodDescriptor "(Ljava/lang/Object;)Z" = some ⟨[(.object "java/lang/Object")], some .boolean⟩ := by decide +kernel
theorem pd__28Ljava_2flang_2fString_3bLjava_2flang_2fString_3bLjava_2futil_2fList_3bZ_29V : parseMethodDescriptor "(Ljava/lang/String;Ljava/lang/String;Ljava/util/List;Z)V" = some ⟨[(.object "java/lang/String"), (.object "java/lang/String"), (.object "java/util/List"), .boolean], none⟩ := by decide +kernel
theorem pd__28_29Z : parseMethodDescriptor "()Z" = some ⟨[], some .boolean⟩ := by decide +kernel
set_option maxRecDepth 65536 in
set_option maxHeartbeats 40000000 in
theorem rm0 (l : Launch) (Z : State) (a0 : Array Value) (hw : ∀ d ∈ tables_1, d.before a0 Z = true) (ws : List Jvm.Cond) (i0 : Int32) (i1 : Int32) (i2 : Int32) (zc : Int32) (d : Addr) (kd : ClassId) (h0 : Heap) (n0 : Nat) (Z0 : n0 ≤ h0.size) (old : Old Z n0 h0) (Sc : Sta Z Z.heap "java/lang/String" "COMPACT_STRINGS" "Z" (.int zc)) (hzc : ¬ zc = 0) (Sd : Sta Z Z.heap "java/util/ArrayList" "DEFAULTCAPACITY_EMPTY_ELEMENTDATA" "[Ljava/lang/Object;" (.ref d)) (V_d : Arv Z Z.heap d kd (.object "java/lang/Object") (0 : Int32) [] .null) :
    MetFree l x (head1 (Jvm.Cond.code x code maxLocals ret :: ws) room_1) (fun ar_ U => ar_ = #[(.int i0), (.int i1), (.int i2)] ∧ Z.Warmed39 U.vm ∧ U.heap = h0) (fun _ _ _ _ _ => True) (fun _ U o U' => Phi U (fun v h L => v = some (.int 1) ∧ Fr n0 L) room_1.cells room_1.slots o U') := by
  refine MetFree.of_bodySF (plainFor_of_name pn_com_example_occupancy_occupancy_HttpInputClosesPinLaw) hisR ?_
  intro p e s m args below meth c s₁ Bd hml0 hP hK
  obtain ⟨rfl, hZ, hh⟩ := hP
  have hx := Bd.exec
  have hby := Bd.bytes
  have hlk := Bd.notSynchronized
  have hml : c.maxLocals = 11 := hml0
  have hown : s.vm.findClass "com/example/occupancy/occupancy/HttpInputClosesPinLaw" = some m.cls := findClass_of_methodNamed Bd.named
  have hown0 := hown
  have hnm := (name_of_methodNamed Bd.named Bd.method).1
  have hret := Bd.returns
  have X0 : Stand p l e room_1 s m #[(.int i0), (.int i1), (.int i2)] below meth c s₁ [] 0 0 := Stand.of_body Bd
  have e0 : s₁.heap = h0 := by rw [← hh, Bd.state]; rfl
  have N0 := Fr.nil n0
  have sz := Z0
  have K := Keep.refl h0 []
  show Runs p.tables e below (Phi s (fun v h L => v = some (.int 1) ∧ Fr n0 L) room_1.cells room_1.slots) _
  refine Runs.st (fun t' k' => castTop (ef_0_III m i0 i1 i2 ) k') ?_
  show Runs p.tables e below _ (s₁.setTop (mkF m 0 #[.val (.int i0), .val (.int i1), .val (.int i2), .unset, .unset, .unset, .unset, .unset, .unset, .unset, .unset] []))
  refine Runs.st (fun t' k' => XS.iconst X0.here hx rfl (hb hby at_0) k') ?_
  show Runs p.tables e below _ (s₁.setTop (mkF m 1 #[.val (.int i0), .val (.int i1), .val (.int i2), .unset, .unset, .unset, .unset, .unset, .unset, .unset, .unset] [(.int (2 : Int32))]))
  obtain ⟨T1_, h1_, k1_, X1_, e1_, E1_, A1_, st1_⟩ := newP X0 hx hZ (hw _ (List.mem_of_getElem? (i := 0) rfl)) e0 (g := (mkF m 1 #[.val (.int i0), .val (.int i1), .val (.int i2), .unset, .unset, .unset, .unset, .unset, .unset, .unset, .unset] [(.int (2 : Int32))])) rfl (hb hby at_1) rfl (by decide) (cap := 2) (by decide) (by decide) (by decide) (by decide)
  refine Runs.st (st1_) ?_
  obtain ⟨b1, g1_⟩ : ∃ z, z = h0.size := ⟨_, rfl⟩
  rw [← g1_] at A1_
  try rw [← g1_]
  have g_b1 : n0 ≤ b1 := Nat.le_trans sz (Nat.le_of_eq g1_.symm)
  have sz_b1 : h0.size ≤ b1 := Nat.le_trans K.1 (Nat.le_of_eq g1_.symm)
  replace old := old.ext E1_
  replace sz := Nat.le_trans sz E1_.1
  replace K := K.ext E1_
  have V_b1 : Arv Z h1_ b1 k1_ .char (2 : Int32) [(.int (0 : Int32)), (.int (0 : Int32))] (.int (0 : Int32)) := (Arv.new A1_ (by decide)).pad (pad_rep [] (.int (0 : Int32)) 2)
  show Runs p.tables e below _ (T1_.setTop (mkF m 3 #[.val (.int i0), .val (.int i1), .val (.int i2), .unset, .unset, .unset, .unset, .unset, .unset, .unset, .unset] [(.ref b1)]))
  refine Runs.st (fun t' k' => XS.astoreN X1_.here hx rfl (hb hby at_3) rfl rfl (l' := #[.val (.int i0), .val (.int i1), .val (.int i2), .val (.ref b1), .unset, .unset, .unset, .unset, .unset, .unset, .unset]) rfl k') ?_
  show Runs p.tables e below _ (T1_.setTop (mkF m 4 #[.val (.int i0), .val (.int i1), .val (.int i2), .val (.ref b1), .unset, .unset, .unset, .unset, .unset, .unset, .unset] []))
  refine Runs.st (fun t' k' => XS.aloadN X1_.here hx rfl (hb hby at_4) rfl rfl k') ?_
  show Runs p.tables e below _ (T1_.setTop (mkF m 5 #[.val (.int i0), .val (.int i1), .val (.int i2), .val (.ref b1), .unset, .unset, .unset, .unset, .unset, .unset, .unset] [(.ref b1)]))
  refine Runs.st (fun t' k' => XS.iconst X1_.here hx rfl (hb hby at_5) k') ?_
  show Runs p.tables e below _ (T1_.setTop (mkF m 6 #[.val (.int i0), .val (.int i1), .val (.int i2), .val (.ref b1), .unset, .unset, .unset, .unset, .unset, .unset, .unset] [(.int (0 : Int32)), (.ref b1)]))
  refine Runs.st (fun t' k' => XS.iloadN X1_.here hx rfl (hb hby at_6) rfl k') ?_
  show Runs p.tables e below _ (T1_.setTop (mkF m 7 #[.val (.int i0), .val (.int i1), .val (.int i2), .val (.ref b1), .unset, .unset, .unset, .unset, .unset, .unset, .unset] [(.int i0), (.int (0 : Int32)), (.ref b1)]))
  refine Runs.st (fun t' k' => XS.sipush X1_.here hx rfl (hb hby at_7) k') ?_
  show Runs p.tables e below _ (T1_.setTop (mkF m 10 #[.val (.int i0), .val (.int i1), .val (.int i2), .val (.ref b1), .unset, .unset, .unset, .unset, .unset, .unset, .unset] [(.int (255 : Int32)), (.int i0), (.int (0 : Int32)), (.ref b1)]))
  refine Runs.st (fun t' k' => XS.iand X1_.here hx rfl (hb hby at_10) rfl k') ?_
  show Runs p.tables e below _ (T1_.setTop (mkF m 11 #[.val (.int i0), .val (.int i1), .val (.int i2), .val (.ref b1), .unset, .unset, .unset, .unset, .unset, .unset, .unset] [(.int (i0 &&& (255 : Int32))), (.int (0 : Int32)), (.ref b1)]))
  refine Runs.st (fun t' k' => XS.i2c X1_.here hx rfl (hb hby at_11) rfl k') ?_
  show Runs p.tables e below _ (T1_.setTop (mkF m 12 #[.val (.int i0), .val (.int i1), .val (.int i2), .val (.ref b1), .unset, .unset, .unset, .unset, .unset, .unset, .unset] [(.int ((i0 &&& (255 : Int32)).toUInt32.toUInt16.toUInt32.toInt32)), (.int (0 : Int32)), (.ref b1)]))
  obtain ⟨cl2_, Ar2_, q2_, S2_, M2_, Ha2_, G2_⟩ := V_b1
  have hin2_ : ¬ ((0 : Int32) < 0 ∨ cl2_.slots.size ≤ ((0 : Int32)).toNatClampNeg) := inb_of S2_ ⟨by decide, by decide⟩
  obtain ⟨T2_, h2_, X2_, e2_, W2_, st2_⟩ := stC X1_ hx hZ e1_ Ar2_ (j := (0 : Int32)) hin2_ (g := (mkF m 12 #[.val (.int i0), .val (.int i1), .val (.int i2), .val (.ref b1), .unset, .unset, .unset, .unset, .unset, .unset, .unset] [(.int ((i0 &&& (255 : Int32)).toUInt32.toUInt16.toUInt32.toInt32)), (.int (0 : Int32)), (.ref b1)])) rfl rfl (hb hby at_12)
  refine Runs.st (st2_) ?_
  have V_b1 := Arv.set Ar2_ q2_ S2_ M2_ Ha2_ G2_ (fits_nar_char _) W2_ 0 rfl (Nat.le_of_ble_eq_true rfl)
  replace old := old.wr W2_ g_b1
  replace sz := Nat.le_trans sz (Keep.of_wr W2_).1
  have N2_ := Fr.snoc X2_ N0 g_b1
  replace K := K.wr W2_ (Or.inr sz_b1)
  show Runs p.tables e below _ (T2_.setTop (mkF m 13 #[.val (.int i0), .val (.int i1), .val (.int i2), .val (.ref b1), .unset, .unset, .unset, .unset, .unset, .unset, .unset] []))
  refine Runs.st (fun t' k' => XS.aloadN X2_.here hx rfl (hb hby at_13) rfl rfl k') ?_
  show Runs p.tables e below _ (T2_.setTop (mkF m 14 #[.val (.int i0), .val (.int i1), .val (.int i2), .val (.ref b1), .unset, .unset, .unset, .unset, .unset, .unset, .unset] [(.ref b1)]))
  refine Runs.st (fun t' k' => XS.iconst X2_.here hx rfl (hb hby at_14) k') ?_
  show Runs p.tables e below _ (T2_.setTop (mkF m 15 #[.val (.int i0), .val (.int i1), .val (.int i2), .val (.ref b1), .unset, .unset, .unset, .unset, .unset, .unset, .unset] [(.int (1 : Int32)), (.ref b1)]))
  refine Runs.st (fun t' k' => XS.iloadN X2_.here hx rfl (hb hby at_15) rfl k') ?_
  show Runs p.tables e below _ (T2_.setTop (mkF m 16 #[.val (.int i0), .val (.int i1), .val (.int i2), .val (.ref b1), .unset, .unset, .unset, .unset, .unset, .unset, .unset] [(.int i0), (.int (1 : Int32)), (.ref b1)]))
  refine Runs.st (fun t' k' => XS.bipush X2_.here hx rfl (hb hby at_16) k') ?_
  show Runs p.tables e below _ (T2_.setTop (mkF m 18 #[.val (.int i0), .val (.int i1), .val (.int i2), .val (.ref b1), .unset, .unset, .unset, .unset, .unset, .unset, .unset] [(.int (8 : Int32)), (.int i0), (.int (1 : Int32)), (.ref b1)]))
  refine Runs.st (fun t' k' => XS.iushr X2_.here hx rfl (hb hby at_18) rfl k') ?_
  show Runs p.tables e below _ (T2_.setTop (mkF m 19 #[.val (.int i0), .val (.int i1), .val (.int i2), .val (.ref b1), .unset, .unset, .unset, .unset, .unset, .unset, .unset] [(.int ((i0.toUInt32 >>> ((8 : Int32) &&& 31).toUInt32).toInt32)), (.int (1 : Int32)), (.ref b1)]))
  refine Runs.st (fun t' k' => XS.sipush X2_.here hx rfl (hb hby at_19) k') ?_
  show Runs p.tables e below _ (T2_.setTop (mkF m 22 #[.val (.int i0), .val (.int i1), .val (.int i2), .val (.ref b1), .unset, .unset, .unset, .unset, .unset, .unset, .unset] [(.int (255 : Int32)), (.int ((i0.toUInt32 >>> ((8 : Int32) &&& 31).toUInt32).toInt32)), (.int (1 : Int32)), (.ref b1)]))
  refine Runs.st (fun t' k' => XS.iand X2_.here hx rfl (hb hby at_22) rfl k') ?_
  show Runs p.tables e below _ (T2_.setTop (mkF m 23 #[.val (.int i0), .val (.int i1), .val (.int i2), .val (.ref b1), .unset, .unset, .unset, .unset, .unset, .unset, .unset] [(.int (((i0.toUInt32 >>> ((8 : Int32) &&& 31).toUInt32).toInt32) &&& (255 : Int32))), (.int (1 : Int32)), (.ref b1)]))
  refine Runs.st (fun t' k' => XS.i2c X2_.here hx rfl (hb hby at_23) rfl k') ?_
  show Runs p.tables e below _ (T2_.setTop (mkF m 24 #[.val (.int i0), .val (.int i1), .val (.int i2), .val (.ref b1), .unset, .unset, .unset, .unset, .unset, .unset, .unset] [(.int ((((i0.toUInt32 >>> ((8 : Int32) &&& 31).toUInt32).toInt32) &&& (255 : Int32)).toUInt32.toUInt16.toUInt32.toInt32)), (.int (1 : Int32)), (.ref b1)]))
  obtain ⟨cl3_, Ar3_, q3_, S3_, M3_, Ha3_, G3_⟩ := V_b1
  have hin3_ : ¬ ((1 : Int32) < 0 ∨ cl3_.slots.size ≤ ((1 : Int32)).toNatClampNeg) := inb_of S3_ ⟨by decide, by decide⟩
  obtain ⟨T3_, h3_, X3_, e3_, W3_, st3_⟩ := stC X2_ hx hZ e2_ Ar3_ (j := (1 : Int32)) hin3_ (g := (mkF m 24 #[.val (.int i0), .val (.int i1), .val (.int i2), .val (.ref b1), .unset, .unset, .unset, .unset, .unset, .unset, .unset] [(.int ((((i0.toUInt32 >>> ((8 : Int32) &&& 31).toUInt32).toInt32) &&& (255 : Int32)).toUInt32.toUInt16.toUInt32.toInt32)), (.int (1 : Int32)), (.ref b1)])) rfl rfl (hb hby at_24)
  refine Runs.st (st3_) ?_
  have V_b1 := Arv.set Ar3_ q3_ S3_ M3_ Ha3_ G3_ (fits_nar_char _) W3_ 1 rfl (Nat.le_of_ble_eq_true rfl)
  replace old := old.wr W3_ g_b1
  replace sz := Nat.le_trans sz (Keep.of_wr W3_).1
  have N3_ := Fr.snoc X3_ N2_ g_b1
  replace K := K.wr W3_ (Or.inr sz_b1)
  show Runs p.tables e below _ (T3_.setTop (mkF m 25 #[.val (.int i0), .val (.int i1), .val (.int i2), .val (.ref b1), .unset, .unset, .unset, .unset, .unset, .unset, .unset] []))
  obtain ⟨T4_, h4_, X4_, e4_, E4_, A4_, D4_, -, st4_⟩ := newO X3_ hx hZ hown (hw _ (List.mem_of_getElem? (i := 1) rfl)) (hw _ (List.mem_of_getElem? (i := 2) rfl)) (hw _ (List.mem_of_getElem? (i := 3) rfl)) e3_ (g := (mkF m 25 #[.val (.int i0), .val (.int i1), .val (.int i2), .val (.ref b1), .unset, .unset, .unset, .unset, .unset, .unset, .unset] [])) rfl (hb hby at_25) (by decide) (by decide)
  refine Runs.st (st4_) ?_
  obtain ⟨b2, g4_⟩ : ∃ z, z = h3_.size := ⟨_, rfl⟩
  rw [← g4_] at A4_ D4_
  try rw [← g4_]
  have g_b2 : n0 ≤ b2 := Nat.le_trans sz (Nat.le_of_eq g4_.symm)
  have sz_b2 : h0.size ≤ b2 := Nat.le_trans K.1 (Nat.le_of_eq g4_.symm)
  have ne_b1_b2 : b1 ≠ b2 := Nat.ne_of_lt (Nat.lt_of_lt_of_le V_b1.lt (Nat.le_of_eq g4_.symm))
  replace old := old.ext E4_
  replace V_b1 := V_b1.ext E4_
  replace sz := Nat.le_trans sz E4_.1
  replace K := K.ext E4_
  have E_b2 := A4_
  have F_b2_coder : Fld Z h4_ b2 "java/lang/String" "coder" "B" (.int (0 : Int32)) := D4_ (Or.inr (hw _ (List.mem_of_getElem? (i := 27) rfl))) (ty := .byte) (by decide)
  have F_b2_value : Fld Z h4_ b2 "java/lang/String" "value" "[B" .null := D4_ (Or.inr (hw _ (List.mem_of_getElem? (i := 29) rfl))) (ty := (.array .byte)) (by decide)
  show Runs p.tables e below _ (T4_.setTop (mkF m 28 #[.val (.int i0), .val (.int i1), .val (.int i2), .val (.ref b1), .unset, .unset, .unset, .unset, .unset, .unset, .unset] [(.ref b2)]))
  refine Runs.st (fun t' k' => XS.dup X4_.here hx rfl (hb hby at_28) rfl rfl k') ?_
  show Runs p.tables e below _ (T4_.setTop (mkF m 29 #[.val (.int i0), .val (.int i1), .val (.int i2), .val (.ref b1), .unset, .unset, .unset, .unset, .unset, .unset, .unset] [(.ref b2), (.ref b2)]))
  refine Runs.st (fun t' k' => XS.aloadN X4_.here hx rfl (hb hby at_29) rfl rfl k') ?_
  show Runs p.tables e below _ (T4_.setTop (mkF m 30 #[.val (.int i0), .val (.int i1), .val (.int i2), .val (.ref b1), .unset, .unset, .unset, .unset, .unset, .unset, .unset] [(.ref b1), (.ref b2), (.ref b2)]))
  have kz5_ := K.1
  have gz5_ := sz
  have lt5__b1 := V_b1.lt
  have lt5__b2 := E_b2.lt
  obtain ⟨_, _, ⟨T5_, L5_, k5_, n5_⟩, -, X5_, ⟨Lc5_, hQ5_, l5_, y5_, z5_⟩, st5_⟩ := X4_.specialBack hx (y := (⟨"java/lang/String", "<init>", "([C)V"⟩ : MethodName)) rfl hown (mvT hZ (hw _ (List.mem_of_getElem? (i := 4) rfl))) (mvT hZ (hw _ (List.mem_of_getElem? (i := 5) rfl))) (mvT hZ (hw _ (List.mem_of_getElem? (i := 6) rfl))) (by decide) (backOf (W := 1) (rmIC2 l Z a0 hw [] b2 b1 (nar .char ((i0 &&& (255 : Int32)).toUInt32.toUInt16.toUInt32.toInt32)) (nar .char ((((i0.toUInt32 >>> ((8 : Int32) &&& 31).toUInt32).toInt32) &&& (255 : Int32)).toUInt32.toUInt16.toUInt32.toInt32)) _ zc h4_ n0 sz E_b2 F_b2_value F_b2_coder g_b2 V_b1 (Sc.ext old.2) hzc (own_un _) (own_un _)) hZ (hw _ (List.mem_of_getElem? (i := 6) rfl)) (hw _ (List.mem_of_getElem? (i := 3) rfl)) (by decide) (by decide)) (g := (mkF m 30 #[.val (.int i0), .val (.int i1), .val (.int i2), .val (.ref b1), .unset, .unset, .unset, .unset, .unset, .unset, .unset] [(.ref b1), (.ref b2), (.ref b2)])) rfl (by rw [hml]; rfl) (Steps.refl _) (a := b2) (argsL := [(.ref b1)]) (rest := [(.ref b2)]) (lenOf pd__28_5bC_29V rfl) rfl (by show 2 * 0 + _ ≤ _; exact Nat.le_of_eq rfl) (hb hby at_30) (fun _ _ => ⟨rfl, e4_, (by decide : 2 + 1 ≤ _), (by decide : 6 + 2 ≤ _)⟩)
  dsimp only [Pt.U, Pt.locs, Pt.cells, Pt.slots] at X5_ l5_ y5_ z5_ st5_ hQ5_
  subst l5_ y5_ z5_
  obtain ⟨rfl, N5_q, K5_, E_b2, F_b2_coder, b3, kb3, szb, F_b2_value, V_b3⟩ := hQ5_
  have N5_ := Fr.app N3_ N5_q
  refine Runs.tr st5_ ?_
  replace X5_ := wider X5_ (c' := 3) (s' := 8) (by decide) (by decide)
  replace old := old.keep K5_ (allS g_b2 all0)
  replace V_b1 := V_b1.keep K5_ (ninS ne_b1_b2 nin0)
  replace sz := Nat.le_trans sz K5_.1
  replace K := K.trans K5_ (allS (Or.inr sz_b2) all0)
  have sz_b3 : h0.size ≤ b3 := Nat.le_trans kz5_ szb
  have g_b3 : n0 ≤ b3 := Nat.le_trans gz5_ szb
  have ne_b1_b3 : b1 ≠ b3 := Nat.ne_of_lt (Nat.lt_of_lt_of_le lt5__b1 szb)
  have ne_b2_b3 : b2 ≠ b3 := Nat.ne_of_lt (Nat.lt_of_lt_of_le lt5__b2 szb)
  show Runs p.tables e below _ (T5_.setTop (mkF m 33 #[.val (.int i0), .val (.int i1), .val (.int i2), .val (.ref b1), .unset, .unset, .unset, .unset, .unset, .unset, .unset] [(.ref b2)]))
  refine Runs.st (fun t' k' => XS.astore X5_.here hx rfl (hb hby at_33) rfl rfl (l' := #[.val (.int i0), .val (.int i1), .val (.int i2), .val (.ref b1), .val (.ref b2), .unset, .unset, .unset, .unset, .unset, .unset]) rfl k') ?_
  show Runs p.tables e below _ (T5_.setTop (mkF m 35 #[.val (.int i0), .val (.int i1), .val (.int i2), .val (.ref b1), .val (.ref b2), .unset, .unset, .unset, .unset, .unset, .unset] []))
  refine Runs.st (fun t' k' => XS.iloadN X5_.here hx rfl (hb hby at_35) rfl k') ?_
  show Runs p.tables e below _ (T5_.setTop (mkF m 36 #[.val (.int i0), .val (.int i1), .val (.int i2), .val (.ref b1), .val (.ref b2), .unset, .unset, .unset, .unset, .unset, .unset] [(.int i1)]))
  refine Runs.st (fun t' k' => XS.sipush X5_.here hx rfl (hb hby at_36) k') ?_
  show Runs p.tables e below _ (T5_.setTop (mkF m 39 #[.val (.int i0), .val (.int i1), .val (.int i2), .val (.ref b1), .val (.ref b2), .unset, .unset, .unset, .unset, .unset, .unset] [(.int (255 : Int32)), (.int i1)]))
  refine Runs.st (fun t' k' => XS.iand X5_.here hx rfl (hb hby at_39) rfl k') ?_
  show Runs p.tables e below _ (T5_.setTop (mkF m 40 #[.val (.int i0), .val (.int i1), .val (.int i2), .val (.ref b1), .val (.ref b2), .unset, .unset, .unset, .unset, .unset, .unset] [(.int (i1 &&& (255 : Int32)))]))
  refine Runs.st (fun t' k' => XS.i2c X5_.here hx rfl (hb hby at_40) rfl k') ?_
  show Runs p.tables e below _ (T5_.setTop (mkF m 41 #[.val (.int i0), .val (.int i1), .val (.int i2), .val (.ref b1), .val (.ref b2), .unset, .unset, .unset, .unset, .unset, .unset] [(.int ((i1 &&& (255 : Int32)).toUInt32.toUInt16.toUInt32.toInt32))]))
  have kz6_ := K.1
  have gz6_ := sz
  obtain ⟨_, _, ⟨T6_, L6_, k6_, n6_⟩, -, X6_, ⟨Lc6_, hQ6_, l6_, y6_, z6_⟩, st6_⟩ := Jvm.LawKit.callS X5_ hx (y := (⟨"java/lang/String", "valueOf", "(C)Ljava/lang/String;"⟩ : MethodName)) hown (mvT hZ (hw _ (List.mem_of_getElem? (i := 30) rfl))) (mvT hZ (hw _ (List.mem_of_getElem? (i := 31) rfl))) (mvT hZ (hw _ (List.mem_of_getElem? (i := 3) rfl))) (mvT hZ (hw _ (List.mem_of_getElem? (i := 32) rfl))) (by decide) (backOf (W := 0) (rmVO l Z a0 hw [] ((i1 &&& (255 : Int32)).toUInt32.toUInt16.toUInt32.toInt32) zc T5_.heap n0 sz (Sc.ext old.2) hzc (own_u _)) hZ (hw _ (List.mem_of_getElem? (i := 32) rfl)) (hw _ (List.mem_of_getElem? (i := 3) rfl)) (by decide) (by decide)) (g := (mkF m 41 #[.val (.int i0), .val (.int i1), .val (.int i2), .val (.ref b1), .val (.ref b2), .unset, .unset, .unset, .unset, .unset, .unset] [(.int ((i1 &&& (255 : Int32)).toUInt32.toUInt16.toUInt32.toInt32))])) rfl (by rw [hml]; rfl) (argsL := [(.int ((i1 &&& (255 : Int32)).toUInt32.toUInt16.toUInt32.toInt32))]) (rest := []) (lenOf pd__28C_29Ljava_2flang_2fString_3b rfl) rfl (by show 2 * 0 + _ ≤ _; exact Nat.le_of_eq rfl) (hb hby at_41) (fun _ _ => ⟨rfl, rfl, (by decide : 3 + 2 ≤ _), (by decide : 8 + 5 ≤ _)⟩)
  dsimp only [Pt.U, Pt.locs, Pt.cells, Pt.slots] at X6_ l6_ y6_ z6_ st6_ hQ6_
  subst l6_ y6_ z6_
  obtain ⟨b4, b5, kb5, rfl, N6_q, K6_, szb4, szb5, ne45, E_b4, F_b4c, F_b4v, V_b5⟩ := hQ6_
  have N6_ := Fr.app N5_ N6_q
  refine Runs.st (st6_) ?_
  replace X6_ := wider X6_ (c' := 5) (s' := 13) (by decide) (by decide)
  replace old := old.keep K6_ all0
  replace sz := Nat.le_trans sz K6_.1
  replace K := K.trans K6_ all0
  have sz_b4 : h0.size ≤ b4 := Nat.le_trans kz6_ szb4
  have g_b4 : n0 ≤ b4 := Nat.le_trans gz6_ szb4
  show Runs p.tables e below _ (T6_.setTop (mkF m 44 #[.val (.int i0), .val (.int i1), .val (.int i2), .val (.ref b1), .val (.ref b2), .unset, .unset, .unset, .unset, .unset, .unset] [(.ref b4)]))
  refine Runs.st (fun t' k' => XS.astore X6_.here hx rfl (hb hby at_44) rfl rfl (l' := #[.val (.int i0), .val (.int i1), .val (.int i2), .val (.ref b1), .val (.ref b2), .val (.ref b4), .unset, .unset, .unset, .unset, .unset]) rfl k') ?_
  show Runs p.tables e below _ (T6_.setTop (mkF m 46 #[.val (.int i0), .val (.int i1), .val (.int i2), .val (.ref b1), .val (.ref b2), .val (.ref b4), .unset, .unset, .unset, .unset, .unset] []))
  obtain ⟨T7_, h7_, X7_, e7_, E7_, A7_, D7_, -, st7_⟩ := newO X6_ hx hZ hown (hw _ (List.mem_of_getElem? (i := 44) rfl)) (hw _ (List.mem_of_getElem? (i := 45) rfl)) (hw _ (List.mem_of_getElem? (i := 46) rfl)) rfl (g := (mkF m 46 #[.val (.int i0), .val (.int i1), .val (.int i2), .val (.ref b1), .val (.ref b2), .val (.ref b4), .unset, .unset, .unset, .unset, .unset] [])) rfl (hb hby at_46) (by decide) (by decide)
  refine Runs.st (st7_) ?_
  obtain ⟨b6, g7_⟩ : ∃ z, z = T6_.heap.size := ⟨_, rfl⟩
  rw [← g7_] at A7_ D7_
  try rw [← g7_]
  have g_b6 : n0 ≤ b6 := Nat.le_trans sz (Nat.le_of_eq g7_.symm)
  have sz_b6 : h0.size ≤ b6 := Nat.le_trans K.1 (Nat.le_of_eq g7_.symm)
  have ne_b4_b6 : b4 ≠ b6 := Nat.ne_of_lt (Nat.lt_of_lt_of_le E_b4.lt (Nat.le_of_eq g7_.symm))
  replace old := old.ext E7_
  replace E_b4 := E_b4.ext E7_
  replace sz := Nat.le_trans sz E7_.1
  replace K := K.ext E7_
  have E_b6 := A7_
  have F_b6_modCount : Fld Z h7_ b6 "java/util/AbstractList" "modCount" "I" (.int (0 : Int32)) := D7_ (Or.inl (hw _ (List.mem_of_getElem? (i := 64) rfl))) (ty := .int) (by decide)
  have F_b6_elementData : Fld Z h7_ b6 "java/util/ArrayList" "elementData" "[Ljava/lang/Object;" .null := D7_ (Or.inl (hw _ (List.mem_of_getElem? (i := 67) rfl))) (ty := (.array (.object "java/lang/Object"))) (by decide)
  have F_b6_size : Fld Z h7_ b6 "java/util/ArrayList" "size" "I" (.int (0 : Int32)) := D7_ (Or.inl (hw _ (List.mem_of_getElem? (i := 76) rfl))) (ty := .int) (by decide)
  show Runs p.tables e below _ (T7_.setTop (mkF m 49 #[.val (.int i0), .val (.int i1), .val (.int i2), .val (.ref b1), .val (.ref b2), .val (.ref b4), .unset, .unset, .unset, .unset, .unset] [(.ref b6)]))
  refine Runs.st (fun t' k' => XS.dup X7_.here hx rfl (hb hby at_49) rfl rfl k') ?_
  show Runs p.tables e below _ (T7_.setTop (mkF m 50 #[.val (.int i0), .val (.int i1), .val (.int i2), .val (.ref b1), .val (.ref b2), .val (.ref b4), .unset, .unset, .unset, .unset, .unset] [(.ref b6), (.ref b6)]))
  obtain ⟨_, _, ⟨T8_, L8_, k8_, n8_⟩, -, X8_, ⟨Lc8_, hQ8_, l8_, y8_, z8_⟩, st8_⟩ := X7_.specialBack hx (y := (⟨"java/util/ArrayList", "<init>", "()V"⟩ : MethodName)) rfl hown (mvT hZ (hw _ (List.mem_of_getElem? (i := 47) rfl))) (mvT hZ (hw _ (List.mem_of_getElem? (i := 48) rfl))) (mvT hZ (hw _ (List.mem_of_getElem? (i := 49) rfl))) (by decide) (backOf (W := 1) (rmLI l Z a0 hw [] b6 d h7_ n0 sz E_b6 F_b6_modCount F_b6_elementData F_b6_size g_b6 Sd old) hZ (hw _ (List.mem_of_getElem? (i := 49) rfl)) (hw _ (List.mem_of_getElem? (i := 46) rfl)) (by decide) (by decide)) (g := (mkF m 50 #[.val (.int i0), .val (.int i1), .val (.int i2), .val (.ref b1), .val (.ref b2), .val (.ref b4), .unset, .unset, .unset, .unset, .unset] [(.ref b6), (.ref b6)])) rfl (by rw [hml]; rfl) (Steps.refl _) (a := b6) (argsL := []) (rest := [(.ref b6)]) (lenOf pd__28_29V rfl) rfl (by show 2 * 0 + _ ≤ _; exact Nat.le_of_eq rfl) (hb hby at_50) (fun _ _ => ⟨rfl, e7_, (by decide : 6 + 0 ≤ _), (by decide : 16 + 0 ≤ _)⟩)
  dsimp only [Pt.U, Pt.locs, Pt.cells, Pt.slots] at X8_ l8_ y8_ z8_ st8_ hQ8_
  subst l8_ y8_ z8_
  obtain ⟨rfl, N8_q, K8_, E_b6, F_b6_modCount, F_b6_elementData, F_b6_size⟩ := hQ8_
  have N8_ := Fr.app N6_ N8_q
  refine Runs.tr st8_ ?_
  replace X8_ := wider X8_ (c' := 6) (s' := 16) (by decide) (by decide)
  replace old := old.keep K8_ (allS g_b6 all0)
  replace E_b4 := E_b4.keep K8_
  replace sz := Nat.le_trans sz K8_.1
  replace K := K.trans K8_ (allS (Or.inr sz_b6) all0)
  show Runs p.tables e below _ (T8_.setTop (mkF m 53 #[.val (.int i0), .val (.int i1), .val (.int i2), .val (.ref b1), .val (.ref b2), .val (.ref b4), .unset, .unset, .unset, .unset, .unset] [(.ref b6)]))
  refine Runs.st (fun t' k' => XS.astore X8_.here hx rfl (hb hby at_53) rfl rfl (l' := #[.val (.int i0), .val (.int i1), .val (.int i2), .val (.ref b1), .val (.ref b2), .val (.ref b4), .val (.ref b6), .unset, .unset, .unset, .unset]) rfl k') ?_
  show Runs p.tables e below _ (T8_.setTop (mkF m 55 #[.val (.int i0), .val (.int i1), .val (.int i2), .val (.ref b1), .val (.ref b2), .val (.ref b4), .val (.ref b6), .unset, .unset, .unset, .unset] []))
  refine Runs.st (fun t' k' => XS.aload X8_.here hx rfl (hb hby at_55) rfl rfl k') ?_
  show Runs p.tables e below _ (T8_.setTop (mkF m 57 #[.val (.int i0), .val (.int i1), .val (.int i2), .val (.ref b1), .val (.ref b2), .val (.ref b4), .val (.ref b6), .unset, .unset, .unset, .unset] [(.ref b6)]))
  refine Runs.st (fun t' k' => XS.aload X8_.here hx rfl (hb hby at_57) rfl rfl k') ?_
  show Runs p.tables e below _ (T8_.setTop (mkF m 59 #[.val (.int i0), .val (.int i1), .val (.int i2), .val (.ref b1), .val (.ref b2), .val (.ref b4), .val (.ref b6), .unset, .unset, .unset, .unset] [(.ref b4), (.ref b6)]))
  have kz9_ := K.1
  have gz9_ := sz
  have lt9__b4 := E_b4.lt
  have lt9__b6 := E_b6.lt
  obtain ⟨cq9_, kq9_, q9_a, q9_b, q9_c⟩ := isOf hZ rfl E_b6
  obtain ⟨_, _, ⟨T9_, L9_, k9_, n9_⟩, -, X9_, ⟨Lc9_, hQ9_, l9_, y9_, z9_⟩, st9_⟩ := X8_.virtualBack hx (y := (⟨"java/util/ArrayList", "add", "(Ljava/lang/Object;)Z"⟩ : MethodName)) (z := (⟨"java/util/ArrayList", "add", "(Ljava/lang/Object;)Z"⟩ : MethodName)) hown (mvT hZ (hw _ (List.mem_of_getElem? (i := 68) rfl))) (mvT hZ (hw _ (List.mem_of_getElem? (i := 69) rfl))) (notFace_of_selects (args := #[]) (mvT hZ (hw _ (List.mem_of_getElem? (i := 71) rfl)))) (mvT hZ (hw _ (List.mem_of_getElem? (i := 71) rfl))) (mvT hZ (hw _ (List.mem_of_getElem? (i := 70) rfl))) (by decide) (backOf (W := 0) (rmAdd l Z a0 hw [] b6 b4 d kd _ T8_.heap n0 sz E_b6 F_b6_elementData F_b6_size F_b6_modCount g_b6 Sd V_d old E_b4 ne_b4_b6) hZ (hw _ (List.mem_of_getElem? (i := 72) rfl)) (hw _ (List.mem_of_getElem? (i := 46) rfl)) (by decide) (by decide)) q9_a q9_c (g := (mkF m 59 #[.val (.int i0), .val (.int i1), .val (.int i2), .val (.ref b1), .val (.ref b2), .val (.ref b4), .val (.ref b6), .unset, .unset, .unset, .unset] [(.ref b4), (.ref b6)])) rfl (by rw [hml]; rfl) (Steps.refl _) (argsL := [(.ref b4)]) (rest := []) (lenOf pd__28Ljava_2flang_2fObject_3b_29Z rfl) rfl (by show 2 * 0 + _ ≤ _; exact Nat.le_of_eq rfl) (hb hby at_59) (fun _ _ => ⟨rfl, rfl, (by decide : 6 + 1 ≤ _), (by decide : 16 + 10 ≤ _)⟩)
  dsimp only [Pt.U, Pt.locs, Pt.cells, Pt.slots] at X9_ l9_ y9_ z9_ st9_ hQ9_
  subst l9_ y9_ z9_
  obtain ⟨rfl, N9_q, K9_, E_b6, F_b6_size, b7, kb7, szb7, F_b6_elementData, V_b7⟩ := hQ9_
  have N9_ := Fr.app N8_ N9_q
  refine Runs.tr st9_ ?_
  replace X9_ := wider X9_ (c' := 7) (s' := 26) (by decide) (by decide)
  replace old := old.keep K9_ (allS g_b6 all0)
  replace E_b4 := E_b4.keep K9_
  replace sz := Nat.le_trans sz K9_.1
  replace K := K.trans K9_ (allS (Or.inr sz_b6) all0)
  have sz_b7 : h0.size ≤ b7 := Nat.le_trans kz9_ szb7
  have g_b7 : n0 ≤ b7 := Nat.le_trans gz9_ szb7
  have ne_b4_b7 : b4 ≠ b7 := Nat.ne_of_lt (Nat.lt_of_lt_of_le lt9__b4 szb7)
  have ne_b6_b7 : b6 ≠ b7 := Nat.ne_of_lt (Nat.lt_of_lt_of_le lt9__b6 szb7)
  show Runs p.tables e below _ (T9_.setTop (mkF m 62 #[.val (.int i0), .val (.int i1), .val (.int i2), .val (.ref b1), .val (.ref b2), .val (.ref b4), .val (.ref b6), .unset, .unset, .unset, .unset] [(.int (1 : Int32))]))
  refine Runs.st (fun t' k' => XS.pop X9_.here hx rfl (hb hby at_62) rfl rfl k') ?_
  show Runs p.tables e below _ (T9_.setTop (mkF m 63 #[.val (.int i0), .val (.int i1), .val (.int i2), .val (.ref b1), .val (.ref b2), .val (.ref b4), .val (.ref b6), .unset, .unset, .unset, .unset] []))
  refine Runs.st (fun t' k' => XS.iloadN X9_.here hx rfl (hb hby at_63) rfl k') ?_
  show Runs p.tables e below _ (T9_.setTop (mkF m 64 #[.val (.int i0), .val (.int i1), .val (.int i2), .val (.ref b1), .val (.ref b2), .val (.ref b4), .val (.ref b6), .unset, .unset, .unset, .unset] [(.int i2)]))
  refine Runs.st (fun t' k' => XS.iconst X9_.here hx rfl (hb hby at_64) k') ?_
  show Runs p.tables e below _ (T9_.setTop (mkF m 65 #[.val (.int i0), .val (.int i1), .val (.int i2), .val (.ref b1), .val (.ref b2), .val (.ref b4), .val (.ref b6), .unset, .unset, .unset, .unset] [(.int (1 : Int32)), (.int i2)]))
  refine Runs.st (fun t' k' => XS.iand X9_.here hx rfl (hb hby at_65) rfl k') ?_
  show Runs p.tables e below _ (T9_.setTop (mkF m 66 #[.val (.int i0), .val (.int i1), .val (.int i2), .val (.ref b1), .val (.ref b2), .val (.ref b4), .val (.ref b6), .unset, .unset, .unset, .unset] [(.int (i2 &&& (1 : Int32)))]))
  by_cases c66 : (i2 &&& (1 : Int32)) = (0 : Int32)
  · skip
    refine Runs.st (fun t' k' => XS.ifYes X9_.here hx rfl (pc0 := 66) (pc' := 73) rfl (hb hby at_66) rfl ((if0 _ _).trans (teq c66).1) (by decide) (by decide) k') ?_
    show Runs p.tables e below _ (T9_.setTop (mkF m 73 #[.val (.int i0), .val (.int i1), .val (.int i2), .val (.ref b1), .val (.ref b2), .val (.ref b4), .val (.ref b6), .unset, .unset, .unset, .unset] []))
    refine Runs.st (fun t' k' => XS.iconst X9_.here hx rfl (hb hby at_73) k') ?_
    show Runs p.tables e below _ (T9_.setTop (mkF m 74 #[.val (.int i0), .val (.int i1), .val (.int i2), .val (.ref b1), .val (.ref b2), .val (.ref b4), .val (.ref b6), .unset, .unset, .unset, .unset] [(.int (0 : Int32))]))
    refine Runs.st (fun t' k' => XS.istore X9_.here hx rfl (hb hby at_74) rfl (l' := #[.val (.int i0), .val (.int i1), .val (.int i2), .val (.ref b1), .val (.ref b2), .val (.ref b4), .val (.ref b6), .val (.int (0 : Int32)), .unset, .unset, .unset]) rfl k') ?_
    show Runs p.tables e below _ (T9_.setTop (mkF m 76 #[.val (.int i0), .val (.int i1), .val (.int i2), .val (.ref b1), .val (.ref b2), .val (.ref b4), .val (.ref b6), .val (.int (0 : Int32)), .unset, .unset, .unset] []))
    obtain ⟨T10_, h10_, X10_, e10_, E10_, A10_, D10_, -, st10_⟩ := newO X9_ hx hZ hown (hw _ (List.mem_of_getElem? (i := 99) rfl)) (hw _ (List.mem_of_getElem? (i := 100) rfl)) (hw _ (List.mem_of_getElem? (i := 101) rfl)) rfl (g := (mkF m 76 #[.val (.int i0), .val (.int i1), .val (.int i2), .val (.ref b1), .val (.ref b2), .val (.ref b4), .val (.ref b6), .val (.int (0 : Int32)), .unset, .unset, .unset] [])) rfl (hb hby at_76) (by decide) (by decide)
    refine Runs.st (st10_) ?_
    obtain ⟨b8, g10_⟩ : ∃ z, z = T9_.heap.size := ⟨_, rfl⟩
    rw [← g10_] at A10_ D10_
    try rw [← g10_]
    have g_b8 : n0 ≤ b8 := Nat.le_trans sz (Nat.le_of_eq g10_.symm)
    have sz_b8 : h0.size ≤ b8 := Nat.le_trans K.1 (Nat.le_of_eq g10_.symm)
    replace old := old.ext E10_
    replace sz := Nat.le_trans sz E10_.1
    replace K := K.ext E10_
    have E_b8 := A10_
    have F_b8_length : Fld Z h10_ b8 "com/example/occupancy/occupancy/HttpInput$Head" "length" "J" (.long (0 : Int64)) := D10_ (Or.inl (hw _ (List.mem_of_getElem? (i := 108) rfl))) (ty := .long) (by decide)
    have F_b8_method : Fld Z h10_ b8 "com/example/occupancy/occupancy/HttpInput$Head" "method" "Ljava/lang/String;" .null := D10_ (Or.inr (hw _ (List.mem_of_getElem? (i := 110) rfl))) (ty := (.object "java/lang/String")) (by decide)
    have F_b8_path : Fld Z h10_ b8 "com/example/occupancy/occupancy/HttpInput$Head" "path" "Ljava/lang/String;" .null := D10_ (Or.inr (hw _ (List.mem_of_getElem? (i := 112) rfl))) (ty := (.object "java/lang/String")) (by decide)
    have F_b8_segments : Fld Z h10_ b8 "com/example/occupancy/occupancy/HttpInput$Head" "segments" "Ljava/util/List;" .null := D10_ (Or.inr (hw _ (List.mem_of_getElem? (i := 114) rfl))) (ty := (.object "java/util/List")) (by decide)
    have F_b8_http10 : Fld Z h10_ b8 "com/example/occupancy/occupancy/HttpInput$Head" "http10" "Z" (.int (0 : Int32)) := D10_ (Or.inr (hw _ (List.mem_of_getElem? (i := 116) rfl))) (ty := .boolean) (by decide)
    have F_b8_close : Fld Z h10_ b8 "com/example/occupancy/occupancy/HttpInput$Head" "close" "Z" (.int (0 : Int32)) := D10_ (Or.inl (hw _ (List.mem_of_getElem? (i := 123) rfl))) (ty := .boolean) (by decide)
    show Runs p.tables e below _ (T10_.setTop (mkF m 79 #[.val (.int i0), .val (.int i1), .val (.int i2), .val (.ref b1), .val (.ref b2), .val (.ref b4), .val (.ref b6), .val (.int (0 : Int32)), .unset, .unset, .unset] [(.ref b8)]))
    refine Runs.st (fun t' k' => XS.dup X10_.here hx rfl (hb hby at_79) rfl rfl k') ?_
    show Runs p.tables e below _ (T10_.setTop (mkF m 80 #[.val (.int i0), .val (.int i1), .val (.int i2), .val (.ref b1), .val (.ref b2), .val (.ref b4), .val (.ref b6), .val (.int (0 : Int32)), .unset, .unset, .unset] [(.ref b8), (.ref b8)]))
    refine Runs.st (fun t' k' => XS.aload X10_.here hx rfl (hb hby at_80) rfl rfl k') ?_
    show Runs p.tables e below _ (T10_.setTop (mkF m 82 #[.val (.int i0), .val (.int i1), .val (.int i2), .val (.ref b1), .val (.ref b2), .val (.ref b4), .val (.ref b6), .val (.int (0 : Int32)), .unset, .unset, .unset] [(.ref b2), (.ref b8), (.ref b8)]))
    refine Runs.st (fun t' k' => XS.aload X10_.here hx rfl (hb hby at_82) rfl rfl k') ?_
    show Runs p.tables e below _ (T10_.setTop (mkF m 84 #[.val (.int i0), .val (.int i1), .val (.int i2), .val (.ref b1), .val (.ref b2), .val (.ref b4), .val (.ref b6), .val (.int (0 : Int32)), .unset, .unset, .unset] [(.ref b4), (.ref b2), (.ref b8), (.ref b8)]))
    refine Runs.st (fun t' k' => XS.aload X10_.here hx rfl (hb hby at_84) rfl rfl k') ?_
    show Runs p.tables e below _ (T10_.setTop (mkF m 86 #[.val (.int i0), .val (.int i1), .val (.int i2), .val (.ref b1), .val (.ref b2), .val (.ref b4), .val (.ref b6), .val (.int (0 : Int32)), .unset, .unset, .unset] [(.ref b6), (.ref b4), (.ref b2), (.ref b8), (.ref b8)]))
    refine Runs.st (fun t' k' => XS.iload X10_.here hx rfl (hb hby at_86) rfl k') ?_
    show Runs p.tables e below _ (T10_.setTop (mkF m 88 #[.val (.int i0), .val (.int i1), .val (.int i2), .val (.ref b1), .val (.ref b2), .val (.ref b4), .val (.ref b6), .val (.int (0 : Int32)), .unset, .unset, .unset] [(.int (0 : Int32)), (.ref b6), (.ref b4), (.ref b2), (.ref b8), (.ref b8)]))
    obtain ⟨_, _, ⟨T11_, L11_, k11_, n11_⟩, -, X11_, ⟨Lc11_, hQ11_, l11_, y11_, z11_⟩, st11_⟩ := X10_.specialBack hx (y := (⟨"com/example/occupancy/occupancy/HttpInput$Head", "<init>", "(Ljava/lang/String;Ljava/lang/String;Ljava/util/List;Z)V"⟩ : MethodName)) rfl hown (mvT hZ (hw _ (List.mem_of_getElem? (i := 102) rfl))) (mvT hZ (hw _ (List.mem_of_getElem? (i := 103) rfl))) (mvT hZ (hw _ (List.mem_of_getElem? (i := 104) rfl))) (by decide) (backOf (W := 1) (rmHead l Z a0 hw [] b8 b2 b4 b6 (0 : Int32) h10_ n0 sz E_b8 F_b8_length F_b8_method F_b8_path F_b8_segments F_b8_http10 F_b8_close g_b8) hZ (hw _ (List.mem_of_getElem? (i := 104) rfl)) (hw _ (List.mem_of_getElem? (i := 101) rfl)) (by decide) (by decide)) (g := (mkF m 88 #[.val (.int i0), .val (.int i1), .val (.int i2), .val (.ref b1), .val (.ref b2), .val (.ref b4), .val (.ref b6), .val (.int (0 : Int32)), .unset, .unset, .unset] [(.int (0 : Int32)), (.ref b6), (.ref b4), (.ref b2), (.ref b8), (.ref b8)])) rfl (by rw [hml]; rfl) (Steps.refl _) (a := b8) (argsL := [(.ref b2), (.ref b4), (.ref b6), (.int (0 : Int32))]) (rest := [(.ref b8)]) (lenOf pd__28Ljava_2flang_2fString_3bLjava_2flang_2fString_3bLjava_2futil_2fList_3bZ_29V rfl) rfl (by show 2 * 0 + _ ≤ _; exact Nat.le_of_eq rfl) (hb hby at_88) (fun _ _ => ⟨rfl, e10_, (by decide : 8 + 0 ≤ _), (by decide : 38 + 0 ≤ _)⟩)
    dsimp only [Pt.U, Pt.locs, Pt.cells, Pt.slots] at X11_ l11_ y11_ z11_ st11_ hQ11_
    subst l11_ y11_ z11_
    obtain ⟨rfl, N11_q, K11_, E_b8, F_b8_http10, F_b8_close⟩ := hQ11_
    have N11_ := Fr.app N9_ N11_q
    refine Runs.tr st11_ ?_
    replace X11_ := wider X11_ (c' := 8) (s' := 38) (by decide) (by decide)
    replace old := old.keep K11_ (allS g_b8 all0)
    replace sz := Nat.le_trans sz K11_.1
    replace K := K.trans K11_ (allS (Or.inr sz_b8) all0)
    show Runs p.tables e below _ (T11_.setTop (mkF m 91 #[.val (.int i0), .val (.int i1), .val (.int i2), .val (.ref b1), .val (.ref b2), .val (.ref b4), .val (.ref b6), .val (.int (0 : Int32)), .unset, .unset, .unset] [(.ref b8)]))
    refine Runs.st (fun t' k' => XS.astore X11_.here hx rfl (hb hby at_91) rfl rfl (l' := #[.val (.int i0), .val (.int i1), .val (.int i2), .val (.ref b1), .val (.ref b2), .val (.ref b4), .val (.ref b6), .val (.int (0 : Int32)), .val (.ref b8), .unset, .unset]) rfl k') ?_
    show Runs p.tables e below _ (T11_.setTop (mkF m 93 #[.val (.int i0), .val (.int i1), .val (.int i2), .val (.ref b1), .val (.ref b2), .val (.ref b4), .val (.ref b6), .val (.int (0 : Int32)), .val (.ref b8), .unset, .unset] []))
    refine Runs.st (fun t' k' => XS.aload X11_.here hx rfl (hb hby at_93) rfl rfl k') ?_
    show Runs p.tables e below _ (T11_.setTop (mkF m 95 #[.val (.int i0), .val (.int i1), .val (.int i2), .val (.ref b1), .val (.ref b2), .val (.ref b4), .val (.ref b6), .val (.int (0 : Int32)), .val (.ref b8), .unset, .unset] [(.ref b8)]))
    obtain ⟨cq12_, kq12_, q12_a, q12_b, q12_c⟩ := isOf hZ rfl E_b8
    obtain ⟨_, _, ⟨T12_, L12_, k12_, n12_⟩, -, X12_, ⟨Lc12_, hQ12_, l12_, y12_, z12_⟩, st12_⟩ := X11_.virtualBack hx (y := (⟨"com/example/occupancy/occupancy/HttpInput$Head", "closes", "()Z"⟩ : MethodName)) (z := (⟨"com/example/occupancy/occupancy/HttpInput$Head", "closes", "()Z"⟩ : MethodName)) hown (mvT hZ (hw _ (List.mem_of_getElem? (i := 117) rfl))) (mvT hZ (hw _ (List.mem_of_getElem? (i := 118) rfl))) (notFace_of_selects (args := #[]) (mvT hZ (hw _ (List.mem_of_getElem? (i := 120) rfl)))) (mvT hZ (hw _ (List.mem_of_getElem? (i := 120) rfl))) (mvT hZ (hw _ (List.mem_of_getElem? (i := 119) rfl))) (by decide) (backOf (W := 0) (rmClo l Z a0 hw [] b8 _ T11_.heap n0 sz F_b8_close F_b8_http10 (by decide)) hZ (hw _ (List.mem_of_getElem? (i := 121) rfl)) (hw _ (List.mem_of_getElem? (i := 101) rfl)) (by decide) (by decide)) q12_a q12_c (g := (mkF m 95 #[.val (.int i0), .val (.int i1), .val (.int i2), .val (.ref b1), .val (.ref b2), .val (.ref b4), .val (.ref b6), .val (.int (0 : Int32)), .val (.ref b8), .unset, .unset] [(.ref b8)])) rfl (by rw [hml]; rfl) (Steps.refl _) (argsL := []) (rest := []) (lenOf pd__28_29Z rfl) rfl (by show 2 * 0 + _ ≤ _; exact Nat.le_of_eq rfl) (hb hby at_95) (fun _ _ => ⟨rfl, rfl, (by decide : 8 + 0 ≤ _), (by decide : 38 + 0 ≤ _)⟩)
    dsimp only [Pt.U, Pt.locs, Pt.cells, Pt.slots] at X12_ l12_ y12_ z12_ st12_ hQ12_
    subst l12_ y12_ z12_
    obtain ⟨rfl, N12_q, e12_⟩ := hQ12_
    have N12_ := Fr.app N11_ N12_q
    refine Runs.tr st12_ ?_
    replace X12_ := wider X12_ (c' := 8) (s' := 38) (by decide) (by decide)
    show Runs p.tables e below _ (T12_.setTop (mkF m 98 #[.val (.int i0), .val (.int i1), .val (.int i2), .val (.ref b1), .val (.ref b2), .val (.ref b4), .val (.ref b6), .val (.int (0 : Int32)), .val (.ref b8), .unset, .unset] [(.int (nar .boolean (0 : Int32)))]))
    refine Runs.st (fun t' k' => XS.istore X12_.here hx rfl (hb hby at_98) rfl (l' := #[.val (.int i0), .val (.int i1), .val (.int i2), .val (.ref b1), .val (.ref b2), .val (.ref b4), .val (.ref b6), .val (.int (0 : Int32)), .val (.ref b8), .val (.int (nar .boolean (0 : Int32))), .unset]) rfl k') ?_
    show Runs p.tables e below _ (T12_.setTop (mkF m 100 #[.val (.int i0), .val (.int i1), .val (.int i2), .val (.ref b1), .val (.ref b2), .val (.ref b4), .val (.ref b6), .val (.int (0 : Int32)), .val (.ref b8), .val (.int (nar .boolean (0 : Int32))), .unset] []))
    refine Runs.st (fun t' k' => XS.aload X12_.here hx rfl (hb hby at_100) rfl rfl k') ?_
    show Runs p.tables e below _ (T12_.setTop (mkF m 102 #[.val (.int i0), .val (.int i1), .val (.int i2), .val (.ref b1), .val (.ref b2), .val (.ref b4), .val (.ref b6), .val (.int (0 : Int32)), .val (.ref b8), .val (.int (nar .boolean (0 : Int32))), .unset] [(.ref b8)]))
    obtain ⟨cq13_, kq13_, q13_a, q13_b, q13_c⟩ := isOf hZ e12_ E_b8
    obtain ⟨_, _, ⟨T13_, L13_, k13_, n13_⟩, -, X13_, ⟨Lc13_, hQ13_, l13_, y13_, z13_⟩, st13_⟩ := X12_.virtualBack hx (y := (⟨"com/example/occupancy/occupancy/HttpInput$Head", "closes", "()Z"⟩ : MethodName)) (z := (⟨"com/example/occupancy/occupancy/HttpInput$Head", "closes", "()Z"⟩ : MethodName)) hown (mvT hZ (hw _ (List.mem_of_getElem? (i := 117) rfl))) (mvT hZ (hw _ (List.mem_of_getElem? (i := 118) rfl))) (notFace_of_selects (args := #[]) (mvT hZ (hw _ (List.mem_of_getElem? (i := 120) rfl)))) (mvT hZ (hw _ (List.mem_of_getElem? (i := 120) rfl))) (mvT hZ (hw _ (List.mem_of_getElem? (i := 119) rfl))) (by decide) (backOf (W := 0) (rmClo l Z a0 hw [] b8 _ T11_.heap n0 sz F_b8_close F_b8_http10 (by decide)) hZ (hw _ (List.mem_of_getElem? (i := 121) rfl)) (hw _ (List.mem_of_getElem? (i := 101) rfl)) (by decide) (by decide)) q13_a q13_c (g := (mkF m 102 #[.val (.int i0), .val (.int i1), .val (.int i2), .val (.ref b1), .val (.ref b2), .val (.ref b4), .val (.ref b6), .val (.int (0 : Int32)), .val (.ref b8), .val (.int (nar .boolean (0 : Int32))), .unset] [(.ref b8)])) rfl (by rw [hml]; rfl) (Steps.refl _) (argsL := []) (rest := []) (lenOf pd__28_29Z rfl) rfl (by show 2 * 0 + _ ≤ _; exact Nat.le_of_eq rfl) (hb hby at_102) (fun _ _ => ⟨rfl, e12_, (by decide : 8 + 0 ≤ _), (by decide : 38 + 0 ≤ _)⟩)
    dsimp only [Pt.U, Pt.locs, Pt.cells, Pt.slots] at X13_ l13_ y13_ z13_ st13_ hQ13_
    subst l13_ y13_ z13_
    obtain ⟨rfl, N13_q, e13_⟩ := hQ13_
    have N13_ := Fr.app N12_ N13_q
    refine Runs.tr st13_ ?_
    replace X13_ := wider X13_ (c' := 8) (s' := 38) (by decide) (by decide)
    show Runs p.tables e below _ (T13_.setTop (mkF m 105 #[.val (.int i0), .val (.int i1), .val (.int i2), .val (.ref b1), .val (.ref b2), .val (.ref b4), .val (.ref b6), .val (.int (0 : Int32)), .val (.ref b8), .val (.int (nar .boolean (0 : Int32))), .unset] [(.int (nar .boolean (0 : Int32)))]))
    refine Runs.st (fun t' k' => XS.istore X13_.here hx rfl (hb hby at_105) rfl (l' := #[.val (.int i0), .val (.int i1), .val (.int i2), .val (.ref b1), .val (.ref b2), .val (.ref b4), .val (.ref b6), .val (.int (0 : Int32)), .val (.ref b8), .val (.int (nar .boolean (0 : Int32))), .val (.int (nar .boolean (0 : Int32)))]) rfl k') ?_
    show Runs p.tables e below _ (T13_.setTop (mkF m 107 #[.val (.int i0), .val (.int i1), .val (.int i2), .val (.ref b1), .val (.ref b2), .val (.ref b4), .val (.ref b6), .val (.int (0 : Int32)), .val (.ref b8), .val (.int (nar .boolean (0 : Int32))), .val (.int (nar .boolean (0 : Int32)))] []))
    refine Runs.st (fun t' k' => XS.iload X13_.here hx rfl (hb hby at_107) rfl k') ?_
    show Runs p.tables e below _ (T13_.setTop (mkF m 109 #[.val (.int i0), .val (.int i1), .val (.int i2), .val (.ref b1), .val (.ref b2), .val (.ref b4), .val (.ref b6), .val (.int (0 : Int32)), .val (.ref b8), .val (.int (nar .boolean (0 : Int32))), .val (.int (nar .boolean (0 : Int32)))] [(.int (nar .boolean (0 : Int32)))]))
    refine Runs.st (fun t' k' => XS.iload X13_.here hx rfl (hb hby at_109) rfl k') ?_
    show Runs p.tables e below _ (T13_.setTop (mkF m 111 #[.val (.int i0), .val (.int i1), .val (.int i2), .val (.ref b1), .val (.ref b2), .val (.ref b4), .val (.ref b6), .val (.int (0 : Int32)), .val (.ref b8), .val (.int (nar .boolean (0 : Int32))), .val (.int (nar .boolean (0 : Int32)))] [(.int (0 : Int32)), (.int (nar .boolean (0 : Int32)))]))
    refine Runs.st (fun t' k' => XS.icmpNo X13_.here hx rfl (hb hby at_111) rfl (teq (by decide)).2 k') ?_
    show Runs p.tables e below _ (T13_.setTop (mkF m 114 #[.val (.int i0), .val (.int i1), .val (.int i2), .val (.ref b1), .val (.ref b2), .val (.ref b4), .val (.ref b6), .val (.int (0 : Int32)), .val (.ref b8), .val (.int (nar .boolean (0 : Int32))), .val (.int (nar .boolean (0 : Int32)))] []))
    refine Runs.st (fun t' k' => XS.iload X13_.here hx rfl (hb hby at_114) rfl k') ?_
    show Runs p.tables e below _ (T13_.setTop (mkF m 116 #[.val (.int i0), .val (.int i1), .val (.int i2), .val (.ref b1), .val (.ref b2), .val (.ref b4), .val (.ref b6), .val (.int (0 : Int32)), .val (.ref b8), .val (.int (nar .boolean (0 : Int32))), .val (.int (nar .boolean (0 : Int32)))] [(.int (nar .boolean (0 : Int32)))]))
    refine Runs.st (fun t' k' => XS.iload X13_.here hx rfl (hb hby at_116) rfl k') ?_
    show Runs p.tables e below _ (T13_.setTop (mkF m 118 #[.val (.int i0), .val (.int i1), .val (.int i2), .val (.ref b1), .val (.ref b2), .val (.ref b4), .val (.ref b6), .val (.int (0 : Int32)), .val (.ref b8), .val (.int (nar .boolean (0 : Int32))), .val (.int (nar .boolean (0 : Int32)))] [(.int (0 : Int32)), (.int (nar .boolean (0 : Int32)))]))
    refine Runs.st (fun t' k' => XS.icmpNo X13_.here hx rfl (hb hby at_118) rfl (teq (by decide)).2 k') ?_
    show Runs p.tables e below _ (T13_.setTop (mkF m 121 #[.val (.int i0), .val (.int i1), .val (.int i2), .val (.ref b1), .val (.ref b2), .val (.ref b4), .val (.ref b6), .val (.int (0 : Int32)), .val (.ref b8), .val (.int (nar .boolean (0 : Int32))), .val (.int (nar .boolean (0 : Int32)))] []))
    refine Runs.st (fun t' k' => XS.iconst X13_.here hx rfl (hb hby at_121) k') ?_
    show Runs p.tables e below _ (T13_.setTop (mkF m 122 #[.val (.int i0), .val (.int i1), .val (.int i2), .val (.ref b1), .val (.ref b2), .val (.ref b4), .val (.ref b6), .val (.int (0 : Int32)), .val (.ref b8), .val (.int (nar .boolean (0 : Int32))), .val (.int (nar .boolean (0 : Int32)))] [(.int (1 : Int32))]))
    refine Runs.st (fun t' k' => XS.goto X13_.here hx rfl (pc0 := 122) (pc' := 126) rfl (hb hby at_122) (by decide) (by decide) k') ?_
    show Runs p.tables e below _ (T13_.setTop (mkF m 126 #[.val (.int i0), .val (.int i1), .val (.int i2), .val (.ref b1), .val (.ref b2), .val (.ref b4), .val (.ref b6), .val (.int (0 : Int32)), .val (.ref b8), .val (.int (nar .boolean (0 : Int32))), .val (.int (nar .boolean (0 : Int32)))] [(.int (1 : Int32))]))
    refine Runs.ret X13_ hlk (v := (some (.int (1 : Int32)))) (fun h => by rw [hret] at h; cases h) (by decide) (by decide) ?_ (fun fs hr => retN X13_ hx (t := .boolean) hret (by simp) (hb hby at_126) hr)
    try rw [e13_]
    exact ⟨rfl, N13_⟩
  · skip
    refine Runs.st (fun t' k' => XS.ifNo X9_.here hx rfl (hb hby at_66) rfl ((if0 _ _).trans (feq c66).1) k') ?_
    show Runs p.tables e below _ (T9_.setTop (mkF m 69 #[.val (.int i0), .val (.int i1), .val (.int i2), .val (.ref b1), .val (.ref b2), .val (.ref b4), .val (.ref b6), .unset, .unset, .unset, .unset] []))
    refine Runs.st (fun t' k' => XS.iconst X9_.here hx rfl (hb hby at_69) k') ?_
    show Runs p.tables e below _ (T9_.setTop (mkF m 70 #[.val (.int i0), .val (.int i1), .val (.int i2), .val (.ref b1), .val (.ref b2), .val (.ref b4), .val (.ref b6), .unset, .unset, .unset, .unset] [(.int (1 : Int32))]))
    refine Runs.st (fun t' k' => XS.goto X9_.here hx rfl (pc0 := 70) (pc' := 74) rfl (hb hby at_70) (by decide) (by decide) k') ?_
    show Runs p.tables e below _ (T9_.setTop (mkF m 74 #[.val (.int i0), .val (.int i1), .val (.int i2), .val (.ref b1), .val (.ref b2), .val (.ref b4), .val (.ref b6), .unset, .unset, .unset, .unset] [(.int (1 : Int32))]))
    refine Runs.st (fun t' k' => XS.istore X9_.here hx rfl (hb hby at_74) rfl (l' := #[.val (.int i0), .val (.int i1), .val (.int i2), .val (.ref b1), .val (.ref b2), .val (.ref b4), .val (.ref b6), .val (.int (1 : Int32)), .unset, .unset, .unset]) rfl k') ?_
    show Runs p.tables e below _ (T9_.setTop (mkF m 76 #[.val (.int i0), .val (.int i1), .val (.int i2), .val (.ref b1), .val (.ref b2), .val (.ref b4), .val (.ref b6), .val (.int (1 : Int32)), .unset, .unset, .unset] []))
    obtain ⟨T14_, h14_, X14_, e14_, E14_, A14_, D14_, -, st14_⟩ := newO X9_ hx hZ hown (hw _ (List.mem_of_getElem? (i := 99) rfl)) (hw _ (List.mem_of_getElem? (i := 100) rfl)) (hw _ (List.mem_of_getElem? (i := 101) rfl)) rfl (g := (mkF m 76 #[.val (.int i0), .val (.int i1), .val (.int i2), .val (.ref b1), .val (.ref b2), .val (.ref b4), .val (.ref b6), .val (.int (1 : Int32)), .unset, .unset, .unset] [])) rfl (hb hby at_76) (by decide) (by decide)
    refine Runs.st (st14_) ?_
    obtain ⟨b8, g14_⟩ : ∃ z, z = T9_.heap.size := ⟨_, rfl⟩
    rw [← g14_] at A14_ D14_
    try rw [← g14_]
    have g_b8 : n0 ≤ b8 := Nat.le_trans sz (Nat.le_of_eq g14_.symm)
    have sz_b8 : h0.size ≤ b8 := Nat.le_trans K.1 (Nat.le_of_eq g14_.symm)
    replace old := old.ext E14_
    replace sz := Nat.le_trans sz E14_.1
    replace K := K.ext E14_
    have E_b8 := A14_
    have F_b8_length : Fld Z h14_ b8 "com/example/occupancy/occupancy/HttpInput$Head" "length" "J" (.long (0 : Int64)) := D14_ (Or.inl (hw _ (List.mem_of_getElem? (i := 108) rfl))) (ty := .long) (by decide)
    have F_b8_method : Fld Z h14_ b8 "com/example/occupancy/occupancy/HttpInput$Head" "method" "Ljava/lang/String;" .null := D14_ (Or.inr (hw _ (List.mem_of_getElem? (i := 110) rfl))) (ty := (.object "java/lang/String")) (by decide)
    have F_b8_path : Fld Z h14_ b8 "com/example/occupancy/occupancy/HttpInput$Head" "path" "Ljava/lang/String;" .null := D14_ (Or.inr (hw _ (List.mem_of_getElem? (i := 112) rfl))) (ty := (.object "java/lang/String")) (by decide)
    have F_b8_segments : Fld Z h14_ b8 "com/example/occupancy/occupancy/HttpInput$Head" "segments" "Ljava/util/List;" .null := D14_ (Or.inr (hw _ (List.mem_of_getElem? (i := 114) rfl))) (ty := (.object "java/util/List")) (by decide)
    have F_b8_http10 : Fld Z h14_ b8 "com/example/occupancy/occupancy/HttpInput$Head" "http10" "Z" (.int (0 : Int32)) := D14_ (Or.inr (hw _ (List.mem_of_getElem? (i := 116) rfl))) (ty := .boolean) (by decide)
    have F_b8_close : Fld Z h14_ b8 "com/example/occupancy/occupancy/HttpInput$Head" "close" "Z" (.int (0 : Int32)) := D14_ (Or.inl (hw _ (List.mem_of_getElem? (i := 123) rfl))) (ty := .boolean) (by decide)
    show Runs p.tables e below _ (T14_.setTop (mkF m 79 #[.val (.int i0), .val (.int i1), .val (.int i2), .val (.ref b1), .val (.ref b2), .val (.ref b4), .val (.ref b6), .val (.int (1 : Int32)), .unset, .unset, .unset] [(.ref b8)]))
    refine Runs.st (fun t' k' => XS.dup X14_.here hx rfl (hb hby at_79) rfl rfl k') ?_
    show Runs p.tables e below _ (T14_.setTop (mkF m 80 #[.val (.int i0), .val (.int i1), .val (.int i2), .val (.ref b1), .val (.ref b2), .val (.ref b4), .val (.ref b6), .val (.int (1 : Int32)), .unset, .unset, .unset] [(.ref b8), (.ref b8)]))
    refine Runs.st (fun t' k' => XS.aload X14_.here hx rfl (hb hby at_80) rfl rfl k') ?_
    show Runs p.tables e below _ (T14_.setTop (mkF m 82 #[.val (.int i0), .val (.int i1), .val (.int i2), .val (.ref b1), .val (.ref b2), .val (.ref b4), .val (.ref b6), .val (.int (1 : Int32)), .unset, .unset, .unset] [(.ref b2), (.ref b8), (.ref b8)]))
    refine Runs.st (fun t' k' => XS.aload X14_.here hx rfl (hb hby at_82) rfl rfl k') ?_
    show Runs p.tables e below _ (T14_.setTop (mkF m 84 #[.val (.int i0), .val (.int i1), .val (.int i2), .val (.ref b1), .val (.ref b2), .val (.ref b4), .val (.ref b6), .val (.int (1 : Int32)), .unset, .unset, .unset] [(.ref b4), (.ref b2), (.ref b8), (.ref b8)]))
    refine Runs.st (fun t' k' => XS.aload X14_.here hx rfl (hb hby at_84) rfl rfl k') ?_
    show Runs p.tables e below _ (T14_.setTop (mkF m 86 #[.val (.int i0), .val (.int i1), .val (.int i2), .val (.ref b1), .val (.ref b2), .val (.ref b4), .val (.ref b6), .val (.int (1 : Int32)), .unset, .unset, .unset] [(.ref b6), (.ref b4), (.ref b2), (.ref b8), (.ref b8)]))
    refine Runs.st (fun t' k' => XS.iload X14_.here hx rfl (hb hby at_86) rfl k') ?_
    show Runs p.tables e below _ (T14_.setTop (mkF m 88 #[.val (.int i0), .val (.int i1), .val (.int i2), .val (.ref b1), .val (.ref b2), .val (.ref b4), .val (.ref b6), .val (.int (1 : Int32)), .unset, .unset, .unset] [(.int (1 : Int32)), (.ref b6), (.ref b4), (.ref b2), (.ref b8), (.ref b8)]))
    obtain ⟨_, _, ⟨T15_, L15_, k15_, n15_⟩, -, X15_, ⟨Lc15_, hQ15_, l15_, y15_, z15_⟩, st15_⟩ := X14_.specialBack hx (y := (⟨"com/example/occupancy/occupancy/HttpInput$Head", "<init>", "(Ljava/lang/String;Ljava/lang/String;Ljava/util/List;Z)V"⟩ : MethodName)) rfl hown (mvT hZ (hw _ (List.mem_of_getElem? (i := 102) rfl))) (mvT hZ (hw _ (List.mem_of_getElem? (i := 103) rfl))) (mvT hZ (hw _ (List.mem_of_getElem? (i := 104) rfl))) (by decide) (backOf (W := 1) (rmHead l Z a0 hw [] b8 b2 b4 b6 (1 : Int32) h14_ n0 sz E_b8 F_b8_length F_b8_method F_b8_path F_b8_segments F_b8_http10 F_b8_close g_b8) hZ (hw _ (List.mem_of_getElem? (i := 104) rfl)) (hw _ (List.mem_of_getElem? (i := 101) rfl)) (by decide) (by decide)) (g := (mkF m 88 #[.val (.int i0), .val (.int i1), .val (.int i2), .val (.ref b1), .val (.ref b2), .val (.ref b4), .val (.ref b6), .val (.int (1 : Int32)), .unset, .unset, .unset] [(.int (1 : Int32)), (.ref b6), (.ref b4), (.ref b2), (.ref b8), (.ref b8)])) rfl (by rw [hml]; rfl) (Steps.refl _) (a := b8) (argsL := [(.ref b2), (.ref b4), (.ref b6), (.int (1 : Int32))]) (rest := [(.ref b8)]) (lenOf pd__28Ljava_2flang_2fString_3bLjava_2flang_2fString_3bLjava_2futil_2fList_3bZ_29V rfl) rfl (by show 2 * 0 + _ ≤ _; exact Nat.le_of_eq rfl) (hb hby at_88) (fun _ _ => ⟨rfl, e14_, (by decide : 8 + 0 ≤ _), (by decide : 38 + 0 ≤ _)⟩)
    dsimp only [Pt.U, Pt.locs, Pt.cells, Pt.slots] at X15_ l15_ y15_ z15_ st15_ hQ15_
    subst l15_ y15_ z15_
    obtain ⟨rfl, N15_q, K15_, E_b8, F_b8_http10, F_b8_close⟩ := hQ15_
    have N15_ := Fr.app N9_ N15_q
    refine Runs.tr st15_ ?_
    replace X15_ := wider X15_ (c' := 8) (s' := 38) (by decide) (by decide)
    replace old := old.keep K15_ (allS g_b8 all0)
    replace sz := Nat.le_trans sz K15_.1
    replace K := K.trans K15_ (allS (Or.inr sz_b8) all0)
    show Runs p.tables e below _ (T15_.setTop (mkF m 91 #[.val (.int i0), .val (.int i1), .val (.int i2), .val (.ref b1), .val (.ref b2), .val (.ref b4), .val (.ref b6), .val (.int (1 : Int32)), .unset, .unset, .unset] [(.ref b8)]))
    refine Runs.st (fun t' k' => XS.astore X15_.here hx rfl (hb hby at_91) rfl rfl (l' := #[.val (.int i0), .val (.int i1), .val (.int i2), .val (.ref b1), .val (.ref b2), .val (.ref b4), .val (.ref b6), .val (.int (1 : Int32)), .val (.ref b8), .unset, .unset]) rfl k') ?_
    show Runs p.tables e below _ (T15_.setTop (mkF m 93 #[.val (.int i0), .val (.int i1), .val (.int i2), .val (.ref b1), .val (.ref b2), .val (.ref b4), .val (.ref b6), .val (.int (1 : Int32)), .val (.ref b8), .unset, .unset] []))
    refine Runs.st (fun t' k' => XS.aload X15_.here hx rfl (hb hby at_93) rfl rfl k') ?_
    show Runs p.tables e below _ (T15_.setTop (mkF m 95 #[.val (.int i0), .val (.int i1), .val (.int i2), .val (.ref b1), .val (.ref b2), .val (.ref b4), .val (.ref b6), .val (.int (1 : Int32)), .val (.ref b8), .unset, .unset] [(.ref b8)]))
    obtain ⟨cq16_, kq16_, q16_a, q16_b, q16_c⟩ := isOf hZ rfl E_b8
    obtain ⟨_, _, ⟨T16_, L16_, k16_, n16_⟩, -, X16_, ⟨Lc16_, hQ16_, l16_, y16_, z16_⟩, st16_⟩ := X15_.virtualBack hx (y := (⟨"com/example/occupancy/occupancy/HttpInput$Head", "closes", "()Z"⟩ : MethodName)) (z := (⟨"com/example/occupancy/occupancy/HttpInput$Head", "closes", "()Z"⟩ : MethodName)) hown (mvT hZ (hw _ (List.mem_of_getElem? (i := 117) rfl))) (mvT hZ (hw _ (List.mem_of_getElem? (i := 118) rfl))) (notFace_of_selects (args := #[]) (mvT hZ (hw _ (List.mem_of_getElem? (i := 120) rfl)))) (mvT hZ (hw _ (List.mem_of_getElem? (i := 120) rfl))) (mvT hZ (hw _ (List.mem_of_getElem? (i := 119) rfl))) (by decide) (backOf (W := 0) (rmClo l Z a0 hw [] b8 _ T15_.heap n0 sz F_b8_close F_b8_http10 (by decide)) hZ (hw _ (List.mem_of_getElem? (i := 121) rfl)) (hw _ (List.mem_of_getElem? (i := 101) rfl)) (by decide) (by decide)) q16_a q16_c (g := (mkF m 95 #[.val (.int i0), .val (.int i1), .val (.int i2), .val (.ref b1), .val (.ref b2), .val (.ref b4), .val (.ref b6), .val (.int (1 : Int32)), .val (.ref b8), .unset, .unset] [(.ref b8)])) rfl (by rw [hml]; rfl) (Steps.refl _) (argsL := []) (rest := []) (lenOf pd__28_29Z rfl) rfl (by show 2 * 0 + _ ≤ _; exact Nat.le_of_eq rfl) (hb hby at_95) (fun _ _ => ⟨rfl, rfl, (by decide : 8 + 0 ≤ _), (by decide : 38 + 0 ≤ _)⟩)
    dsimp only [Pt.U, Pt.locs, Pt.cells, Pt.slots] at X16_ l16_ y16_ z16_ st16_ hQ16_
    subst l16_ y16_ z16_
    obtain ⟨rfl, N16_q, e16_⟩ := hQ16_
    have N16_ := Fr.app N15_ N16_q
    refine Runs.tr st16_ ?_
    replace X16_ := wider X16_ (c' := 8) (s' := 38) (by decide) (by decide)
    show Runs p.tables e below _ (T16_.setTop (mkF m 98 #[.val (.int i0), .val (.int i1), .val (.int i2), .val (.ref b1), .val (.ref b2), .val (.ref b4), .val (.ref b6), .val (.int (1 : Int32)), .val (.ref b8), .unset, .unset] [(.int (nar .boolean (1 : Int32)))]))
    refine Runs.st (fun t' k' => XS.istore X16_.here hx rfl (hb hby at_98) rfl (l' := #[.val (.int i0), .val (.int i1), .val (.int i2), .val (.ref b1), .val (.ref b2), .val (.ref b4), .val (.ref b6), .val (.int (1 : Int32)), .val (.ref b8), .val (.int (nar .boolean (1 : Int32))), .unset]) rfl k') ?_
    show Runs p.tables e below _ (T16_.setTop (mkF m 100 #[.val (.int i0), .val (.int i1), .val (.int i2), .val (.ref b1), .val (.ref b2), .val (.ref b4), .val (.ref b6), .val (.int (1 : Int32)), .val (.ref b8), .val (.int (nar .boolean (1 : Int32))), .unset] []))
    refine Runs.st (fun t' k' => XS.aload X16_.here hx rfl (hb hby at_100) rfl rfl k') ?_
    show Runs p.tables e below _ (T16_.setTop (mkF m 102 #[.val (.int i0), .val (.int i1), .val (.int i2), .val (.ref b1), .val (.ref b2), .val (.ref b4), .val (.ref b6), .val (.int (1 : Int32)), .val (.ref b8), .val (.int (nar .boolean (1 : Int32))), .unset] [(.ref b8)]))
    obtain ⟨cq17_, kq17_, q17_a, q17_b, q17_c⟩ := isOf hZ e16_ E_b8
    obtain ⟨_, _, ⟨T17_, L17_, k17_, n17_⟩, -, X17_, ⟨Lc17_, hQ17_, l17_, y17_, z17_⟩, st17_⟩ := X16_.virtualBack hx (y := (⟨"com/example/occupancy/occupancy/HttpInput$Head", "closes", "()Z"⟩ : MethodName)) (z := (⟨"com/example/occupancy/occupancy/HttpInput$Head", "closes", "()Z"⟩ : MethodName)) hown (mvT hZ (hw _ (List.mem_of_getElem? (i := 117) rfl))) (mvT hZ (hw _ (List.mem_of_getElem? (i := 118) rfl))) (notFace_of_selects (args := #[]) (mvT hZ (hw _ (List.mem_of_getElem? (i := 120) rfl)))) (mvT hZ (hw _ (List.mem_of_getElem? (i := 120) rfl))) (mvT hZ (hw _ (List.mem_of_getElem? (i := 119) rfl))) (by decide) (backOf (W := 0) (rmClo l Z a0 hw [] b8 _ T15_.heap n0 sz F_b8_close F_b8_http10 (by decide)) hZ (hw _ (List.mem_of_getElem? (i := 121) rfl)) (hw _ (List.mem_of_getElem? (i := 101) rfl)) (by decide) (by decide)) q17_a q17_c (g := (mkF m 102 #[.val (.int i0), .val (.int i1), .val (.int i2), .val (.ref b1), .val (.ref b2), .val (.ref b4), .val (.ref b6), .val (.int (1 : Int32)), .val (.ref b8), .val (.int (nar .boolean (1 : Int32))), .unset] [(.ref b8)])) rfl (by rw [hml]; rfl) (Steps.refl _) (argsL := []) (rest := []) (lenOf pd__28_29Z rfl) rfl (by show 2 * 0 + _ ≤ _; exact Nat.le_of_eq rfl) (hb hby at_102) (fun _ _ => ⟨rfl, e16_, (by decide : 8 + 0 ≤ _), (by decide : 38 + 0 ≤ _)⟩)
    dsimp only [Pt.U, Pt.locs, Pt.cells, Pt.slots] at X17_ l17_ y17_ z17_ st17_ hQ17_
    subst l17_ y17_ z17_
    obtain ⟨rfl, N17_q, e17_⟩ := hQ17_
    have N17_ := Fr.app N16_ N17_q
    refine Runs.tr st17_ ?_
    replace X17_ := wider X17_ (c' := 8) (s' := 38) (by decide) (by decide)
    show Runs p.tables e below _ (T17_.setTop (mkF m 105 #[.val (.int i0), .val (.int i1), .val (.int i2), .val (.ref b1), .val (.ref b2), .val (.ref b4), .val (.ref b6), .val (.int (1 : Int32)), .val (.ref b8), .val (.int (nar .boolean (1 : Int32))), .unset] [(.int (nar .boolean (1 : Int32)))]))
    refine Runs.st (fun t' k' => XS.istore X17_.here hx rfl (hb hby at_105) rfl (l' := #[.val (.int i0), .val (.int i1), .val (.int i2), .val (.ref b1), .val (.ref b2), .val (.ref b4), .val (.ref b6), .val (.int (1 : Int32)), .val (.ref b8), .val (.int (nar .boolean (1 : Int32))), .val (.int (nar .boolean (1 : Int32)))]) rfl k') ?_
    show Runs p.tables e below _ (T17_.setTop (mkF m 107 #[.val (.int i0), .val (.int i1), .val (.int i2), .val (.ref b1), .val (.ref b2), .val (.ref b4), .val (.ref b6), .val (.int (1 : Int32)), .val (.ref b8), .val (.int (nar .boolean (1 : Int32))), .val (.int (nar .boolean (1 : Int32)))] []))
    refine Runs.st (fun t' k' => XS.iload X17_.here hx rfl (hb hby at_107) rfl k') ?_
    show Runs p.tables e below _ (T17_.setTop (mkF m 109 #[.val (.int i0), .val (.int i1), .val (.int i2), .val (.ref b1), .val (.ref b2), .val (.ref b4), .val (.ref b6), .val (.int (1 : Int32)), .val (.ref b8), .val (.int (nar .boolean (1 : Int32))), .val (.int (nar .boolean (1 : Int32)))] [(.int (nar .boolean (1 : Int32)))]))
    refine Runs.st (fun t' k' => XS.iload X17_.here hx rfl (hb hby at_109) rfl k') ?_
    show Runs p.tables e below _ (T17_.setTop (mkF m 111 #[.val (.int i0), .val (.int i1), .val (.int i2), .val (.ref b1), .val (.ref b2), .val (.ref b4), .val (.ref b6), .val (.int (1 : Int32)), .val (.ref b8), .val (.int (nar .boolean (1 : Int32))), .val (.int (nar .boolean (1 : Int32)))] [(.int (1 : Int32)), (.int (nar .boolean (1 : Int32)))]))
    refine Runs.st (fun t' k' => XS.icmpNo X17_.here hx rfl (hb hby at_111) rfl (teq (by decide)).2 k') ?_
    show Runs p.tables e below _ (T17_.setTop (mkF m 114 #[.val (.int i0), .val (.int i1), .val (.int i2), .val (.ref b1), .val (.ref b2), .val (.ref b4), .val (.ref b6), .val (.int (1 : Int32)), .val (.ref b8), .val (.int (nar .boolean (1 : Int32))), .val (.int (nar .boolean (1 : Int32)))] []))
    refine Runs.st (fun t' k' => XS.iload X17_.here hx rfl (hb hby at_114) rfl k') ?_
    show Runs p.tables e below _ (T17_.setTop (mkF m 116 #[.val (.int i0), .val (.int i1), .val (.int i2), .val (.ref b1), .val (.ref b2), .val (.ref b4), .val (.ref b6), .val (.int (1 : Int32)), .val (.ref b8), .val (.int (nar .boolean (1 : Int32))), .val (.int (nar .boolean (1 : Int32)))] [(.int (nar .boolean (1 : Int32)))]))
    refine Runs.st (fun t' k' => XS.iload X17_.here hx rfl (hb hby at_116) rfl k') ?_
    show Runs p.tables e below _ (T17_.setTop (mkF m 118 #[.val (.int i0), .val (.int i1), .val (.int i2), .val (.ref b1), .val (.ref b2), .val (.ref b4), .val (.ref b6), .val (.int (1 : Int32)), .val (.ref b8), .val (.int (nar .boolean (1 : Int32))), .val (.int (nar .boolean (1 : Int32)))] [(.int (1 : Int32)), (.int (nar .boolean (1 : Int32)))]))
    refine Runs.st (fun t' k' => XS.icmpNo X17_.here hx rfl (hb hby at_118) rfl (teq (by decide)).2 k') ?_
    show Runs p.tables e below _ (T17_.setTop (mkF m 121 #[.val (.int i0), .val (.int i1), .val (.int i2), .val (.ref b1), .val (.ref b2), .val (.ref b4), .val (.ref b6), .val (.int (1 : Int32)), .val (.ref b8), .val (.int (nar .boolean (1 : Int32))), .val (.int (nar .boolean (1 : Int32)))] []))
    refine Runs.st (fun t' k' => XS.iconst X17_.here hx rfl (hb hby at_121) k') ?_
    show Runs p.tables e below _ (T17_.setTop (mkF m 122 #[.val (.int i0), .val (.int i1), .val (.int i2), .val (.ref b1), .val (.ref b2), .val (.ref b4), .val (.ref b6), .val (.int (1 : Int32)), .val (.ref b8), .val (.int (nar .boolean (1 : Int32))), .val (.int (nar .boolean (1 : Int32)))] [(.int (1 : Int32))]))
    refine Runs.st (fun t' k' => XS.goto X17_.here hx rfl (pc0 := 122) (pc' := 126) rfl (hb hby at_122) (by decide) (by decide) k') ?_
    show Runs p.tables e below _ (T17_.setTop (mkF m 126 #[.val (.int i0), .val (.int i1), .val (.int i2), .val (.ref b1), .val (.ref b2), .val (.ref b4), .val (.ref b6), .val (.int (1 : Int32)), .val (.ref b8), .val (.int (nar .boolean (1 : Int32))), .val (.int (nar .boolean (1 : Int32)))] [(.int (1 : Int32))]))
    refine Runs.ret X17_ hlk (v := (some (.int (1 : Int32)))) (fun h => by rw [hret] at h; cases h) (by decide) (by decide) ?_ (fun fs hr => retN X17_ hx (t := .boolean) hret (by simp) (hb hby at_126) hr)
    try rw [e17_]
    exact ⟨rfl, N17_⟩
set_option maxRecDepth 65536 in
set_option maxHeartbeats 40000000 in
theorem comes_1 {Post : Tables → Env → Array Value → State → Outcome → State → Prop} (hpost : ∀ tb e args s v u, (limb_1_1.after args s (.returned v) u = true ∧ limb_1_2.after args s (.returned v) u = true ∧ True) → FrameEnd s (.returned v) u (Jvm.fieldLocs frame_1_writes args s ++ Jvm.arrayLocs frame_1_arrays args s ++ Jvm.staticLocs frame_1_statics s) 24 192 → Post tb e args s (.returned v) u) :
    ArmFor flags0 classFile x code maxLocals ret World_1 tables_1 room_1 Calls_1 rest_1 Pre_1 Post := by
  intro l hfl _ _ p e ha hc hk s m args below hf hA hF happ hP
  obtain ⟨hcalls, hrest, hpre⟩ := hP
  obtain ⟨-, -, -, hnamed, -, -, -, hat⟩ := (Spec.applies_iff hf).mp happ
  obtain ⟨hg, hn⟩ := and_e (Cond.before_iff.mp (show (Jvm.Cond.and given_1 narrow_1).before args s = true from hpre))
  obtain ⟨gc, gr⟩ := and_e hg
  obtain ⟨gi0, gr⟩ := and_e gr
  obtain ⟨gi1, gr⟩ := and_e gr
  have gi2 := gr
  obtain ⟨w0, w1, w2, rfl⟩ : ∃ w0 w1 w2 : Value, args = #[w0, w1, w2] := by
    have hs : args.size = 3 := by simpa [Cond.value, given_1] using gc
    obtain ⟨L⟩ := args
    match L, hs with
    | [w0, w1, w2], _ => exact ⟨w0, w1, w2, rfl⟩
  have hw := fun d (hd : d ∈ tables_1) => atoms_spec (ws := Jvm.Cond.code x code maxLocals ret :: tables_1) hat d (List.mem_cons_of_mem _ hd)
  have hfit : Fit s := fun {y c} hc i hi => by
    obtain ⟨ha, rfl⟩ := Array.getElem?_eq_some_iff.mp hc
    have q := List.all_eq_true.mp ((Array.all_eq_true_iff_forall_mem.mp hF) _ (Array.getElem_mem ha)) i (List.mem_range.mpr hi)
    simpa [Array.getElem?_eq_getElem hi] using q
  obtain ⟨hsets, hown0⟩ := atoms_of _ (rest_1_c_eq ▸ (show rest_1_c.before _ s = true from hrest))
  have hr0 := Cond.before_iff.mp hown0
  obtain ⟨i0, ei0⟩ := is_v gi0
  obtain rfl : w0 = (.int i0) := Option.some.inj ei0
  obtain ⟨i1, ei1⟩ := is_v gi1
  obtain rfl : w1 = (.int i1) := Option.some.inj ei1
  obtain ⟨i2, ei2⟩ := is_v gi2
  obtain rfl : w2 = (.int i2) := Option.some.inj ei2
  obtain ⟨zc, ezc⟩ := is_v (Cond.before_iff.mp (hsets _ (List.mem_of_getElem? (i := 1) rfl)))
  have Sc := Sta.start ezc (Or.inl (hsets _ (List.mem_of_getElem? (i := 0) rfl)))
  have hzc : ¬ zc = 0 := fun q => by
    have u := not_v (Cond.before_iff.mp (hsets _ (List.mem_of_getElem? (i := 2) rfl)))
    rw [q] at ezc
    have w := eq_i ezc (Term.int_eval (0 : Int32)) rfl
    rw [u] at w; cases w
  obtain ⟨fm, efm, hfm⟩ := isR_v (Cond.before_iff.mp (hsets _ (List.mem_of_getElem? (i := 8) rfl)))
  have Sf := Sta.start efm (Or.inl (hsets _ (List.mem_of_getElem? (i := 7) rfl)))
  have qd := Cond.before_iff.mp (hsets _ (List.mem_of_getElem? (i := 15) rfl))
  obtain ⟨d, ed⟩ := arr_v qd
  obtain ⟨cd, Ad⟩ := Arr.start ed qd
  obtain ⟨ld, zd⟩ := the_len ed Ad (Cond.before_iff.mp (hsets _ (List.mem_of_getElem? (i := 17) rfl)))
  have V_d : Arv s s.heap d cd.cls (.object "java/lang/Object") (0 : Int32) [] .null := Arv.start hfit Ad ld zd (by decide) (by decide) trivial
  have Sd := Sta.start ed (Or.inr ⟨(hw _ (List.mem_of_getElem? (i := 46) rfl)), (hsets _ (List.mem_of_getElem? (i := 11) rfl))⟩)
  obtain ⟨n, o, h1, h2, h3, _, L, rfl, ⟨rfl, N⟩, hq⟩ := rm0 l s _ hw tables_1 i0 i1 i2 zc d _ s.heap s.heap.size (Nat.le_refl _) (Old.start s) Sc hzc Sd V_d p e ha hc hk s m _ below hf ((Spec.applies_iff_loose hf).mp happ).1 ⟨rfl, State.Warmed39.refl s, rfl⟩ trivial
  refine ⟨n, _, h1, h2, h3, hpost _ _ _ _ _ _ ⟨Cond.after_iff.mpr rfl, Cond.after_iff.mpr (eq_i res_at (Term.int_eval (1)) rfl), trivial⟩ ⟨hq.1, hq.2.1, (hq.2.2.sift fun y hy => Or.inr (N y hy)).mono (by decide) (by decide)⟩⟩
theorem main_1_1 : Claimed_1_1 := comes_1 fun _ _ _ _ _ _ h hF => ⟨h.1, hF⟩
theorem main_1_2 : Claimed_1_2 := comes_1 fun _ _ _ _ _ _ h hF => ⟨h.2.1, hF⟩
end Jvm.Pilot.@@N@@
namespace Jvm.Pilot.@@N@@
open Jvm Jvm.ClassFile Sem Op Lib Jvm.Free Jvm.Stand Jvm.Pilot.@@N@@.Jvm.D
/-! MADE BY PROGRAM (witnessworld.py) out of the Statement's table words and the real class files: 30 classes; the members and pool entries that the words name. The judged class is class 1, her method 1. -/
namespace start1
open Jvm.ClassFile
def u (s : String) : CpInfo := .utf8 (stringToUtf16 s)
/-- a pool by its gaps: so many unusable entries, then the entry; so many at the end -/
def gap : Nat → List CpInfo → List CpInfo
  | 0, r => r
  | n + 1, r => .unusable :: gap n r
def poolList (es : List (Nat × CpInfo)) (last : Nat) : List CpInfo := es.foldr (fun e r => gap e.1 (e.2 :: r)) (gap last [])
def pool (es : List (Nat × CpInfo)) (last : Nat) : Array CpInfo := ⟨poolList es last⟩
def fileOf (pool : Array CpInfo) (this : Nat) (attrs : Array Attribute := #[]) (ms : Array MethodInfo := #[]) (fl : Nat := 33) (sup : Nat := 0) (ifs : Array Nat := #[]) (fds : Array FieldInfo := #[]) : ClassFile where
  minorVersion := 0
  majorVersion := 65
  constantPool := pool
  accessFlags := fl
  thisClass := this
  superClass := sup
  interfaces := ifs
  fields := fds
  methods := ms
  attributes := attrs
def plain (name : String) (sup : Option ClassId) : Class where
  name := name
  kind := .ordinary
  loader := none
  accessFlags := 33
  super := sup
  interfaces := #[]
  cf := none
  fields := #[]
  methods := #[]
  instanceTypes := #[]
  staticTypes := #[]
  resolved := #[]
  callSites := []
  init := .initialized
  statics := none
  mirror := none

def pool0 : Array CpInfo := pool [(5, u "<init>"), (0, u "()V"), (1, .class_ 10), (1, u "java/lang/Object")] 113

def k0c0 : Code := { maxStack := 0, maxLocals := 1, code := object_method_1_code, exceptionTable := #[], attributes := #[] }
def k0m0 : Method := { name := "<init>", desc := "()V", sig := { parameters := [], returnType := none }, accessFlags := 1, code := some k0c0 }
/-- java/lang/Object -/
def k0 : Class := { plain "java/lang/Object" none with
  accessFlags := 33
  interfaces := #[]
  cf := some (fileOf pool0 8 #[] #[{ accessFlags := 1, nameIndex := 5, descriptorIndex := 6, attributes := #[] }] 33 0 #[] #[])
  fields := #[]
  methods := #[k0m0]
  instanceTypes := #[]
  staticTypes := #[]
  resolved := Array.replicate 124 none
  statics := none }

def pool1 : Array CpInfo := pool [(2, .class_ 4), (0, .nameAndType 5 6), (0, u "java/lang/Object"), (0, u "<init>"), (0, u "()V"), (0, .class_ 8), (0, u "java/lang/String"), (0, .methodref 7 10), (0, .nameAndType 5 11), (0, u "([C)V"), (0, .methodref 7 13), (0, .nameAndType 14 15), (0, u "valueOf"), (0, u "(C)Ljava/lang/String;"), (0, .class_ 17), (0, u "java/util/ArrayList"), (0, .methodref 16 3), (0, .methodref 16 20), (0, .nameAndType 21 22), (0, u "add"), (0, u "(Ljava/lang/Object;)Z"), (0, .class_ 24), (0, u "com/example/occupancy/occupancy/HttpInput$Head"), (0, .methodref 23 26), (0, .nameAndType 5 27), (0, u "(Ljava/lang/String;Ljava/lang/String;Ljava/util/List;Z)V"), (0, .methodref 23 29), (0, .nameAndType 30 31), (0, u "closes"), (0, u "()Z"), (0, .class_ 33), (0, u "com/example/occupancy/occupancy/HttpInputClosesPinLaw"), (2, u "law"), (0, u "(III)Z")] 9

def k1m0 : Method := { name := "<init>", desc := "()V", sig := { parameters := [], returnType := none }, accessFlags := 1, code := none }
def k1c1 : Code := { maxStack := 6, maxLocals := 11, code := code, exceptionTable := #[], attributes := #[] }
def k1m1 : Method := { name := "law", desc := "(III)Z", sig := { parameters := [.int, .int, .int], returnType := some .boolean }, accessFlags := 9, code := some k1c1 }
/-- com/example/occupancy/occupancy/HttpInputClosesPinLaw -/
def k1 : Class := { plain "com/example/occupancy/occupancy/HttpInputClosesPinLaw" (some 0) with
  accessFlags := 49
  interfaces := #[]
  cf := some (fileOf pool1 32 #[] #[{ accessFlags := 1, nameIndex := 5, descriptorIndex := 6, attributes := #[] }, { accessFlags := 9, nameIndex := 36, descriptorIndex := 37, attributes := #[] }] 49 2 #[] #[])
  fields := #[]
  methods := #[k1m0, k1m1]
  instanceTypes := #[]
  staticTypes := #[]
  resolved := Array.replicate 47 none
  statics := none }

def pool2 : Array CpInfo := pool [(1, .class_ 2), (0, u "java/io/Serializable"), (0, .class_ 4), (0, u "java/lang/Object")] 2

/-- java/io/Serializable -/
def k2 : Class := { plain "java/io/Serializable" (some 0) with
  accessFlags := 1537
  interfaces := #[]
  cf := some (fileOf pool2 1 #[] #[] 1537 3 #[] #[])
  fields := #[]
  methods := #[]
  instanceTypes := #[]
  staticTypes := #[]
  resolved := Array.replicate 7 none
  statics := none }

def pool3 : Array CpInfo := pool [(1, .class_ 2), (0, u "java/lang/Comparable"), (0, .class_ 4), (0, u "java/lang/Object")] 7

/-- java/lang/Comparable -/
def k3 : Class := { plain "java/lang/Comparable" (some 0) with
  accessFlags := 1537
  interfaces := #[]
  cf := some (fileOf pool3 1 #[] #[] 1537 3 #[] #[])
  fields := #[]
  methods := #[]
  instanceTypes := #[]
  staticTypes := #[]
  resolved := Array.replicate 12 none
  statics := none }

def pool4 : Array CpInfo := pool [(2, .class_ 4), (1, u "java/lang/CharSequence"), (42, .class_ 48), (0, u "java/lang/CharSequence$1CodePointIterator"), (10, .class_ 60), (0, u "java/lang/CharSequence$1CharIterator"), (5, .class_ 67), (0, u "java/lang/Object")] 63

/-- java/lang/CharSequence -/
def k4 : Class := { plain "java/lang/CharSequence" (some 0) with
  accessFlags := 1537
  interfaces := #[]
  cf := some (fileOf pool4 2 #[.nestMembers #[47, 59]] #[] 1537 66 #[] #[])
  fields := #[]
  methods := #[]
  instanceTypes := #[]
  staticTypes := #[]
  resolved := Array.replicate 131 none
  statics := none }

def pool5 : Array CpInfo := pool [(1, .class_ 2), (0, u "java/lang/constant/Constable"), (0, .class_ 4), (0, u "java/lang/Object")] 6

/-- java/lang/constant/Constable -/
def k5 : Class := { plain "java/lang/constant/Constable" (some 0) with
  accessFlags := 1537
  interfaces := #[]
  cf := some (fileOf pool5 1 #[] #[] 1537 3 #[] #[])
  fields := #[]
  methods := #[]
  instanceTypes := #[]
  staticTypes := #[]
  resolved := Array.replicate 11 none
  statics := none }

def pool6 : Array CpInfo := pool [(1, .class_ 2), (0, u "java/lang/constant/ConstantDesc"), (0, .class_ 4), (0, u "java/lang/Object")] 32

/-- java/lang/constant/ConstantDesc -/
def k6 : Class := { plain "java/lang/constant/ConstantDesc" (some 0) with
  accessFlags := 1537
  interfaces := #[]
  cf := some (fileOf pool6 1 #[] #[] 1537 3 #[] #[])
  fields := #[]
  methods := #[]
  instanceTypes := #[]
  staticTypes := #[]
  resolved := Array.replicate 37 none
  statics := none }

def pool7 : Array CpInfo := pool [(1, .methodref 2 3), (0, .class_ 4), (0, .nameAndType 5 6), (0, u "java/lang/Object"), (0, u "<init>"), (0, u "()V"), (2, .fieldref 10 11), (0, .class_ 12), (0, .nameAndType 13 14), (0, u "java/lang/String"), (0, u "value"), (0, u "[B"), (0, .fieldref 10 16), (0, .nameAndType 17 18), (0, u "coder"), (0, u "B"), (2, u "hash"), (0, u "I"), (2, u "hashIsZero"), (0, u "Z"), (0, .methodref 10 28), (0, .nameAndType 5 29), (0, u "([CIILjava/lang/Void;)V"), (8, .fieldref 10 39), (0, .nameAndType 40 26), (0, u "COMPACT_STRINGS"), (1, .class_ 44), (1, u "java/lang/StringUTF16"), (0, u "compress"), (1, .methodref 42 48), (0, .nameAndType 49 50), (0, u "coderFromArrayLen"), (0, u "([BI)B"), (2, u "toBytes"), (53, .class_ 109), (1, u "java/lang/StringLatin1"), (67, .methodref 42 178), (0, .nameAndType 45 179), (0, u "([CII)[B"), (29, .methodref 10 210), (0, .nameAndType 5 211), (0, u "([BB)V"), (157, u "(C)Z"), (205, .class_ 576), (0, u "java/lang/CharSequence"), (22, u "CASE_INSENSITIVE_ORDER"), (0, u "Ljava/util/Comparator;"), (181, u "valueOf"), (0, u "(C)Ljava/lang/String;"), (226, u "([C)V"), (4, .methodref 107 1016), (0, .nameAndType 1017 369), (0, u "canEncode"), (0, .methodref 107 1019), (0, .nameAndType 53 1020), (0, u "(C)[B"), (80, u "serialPersistentFields"), (0, u "[Ljava/io/ObjectStreamField;"), (0, .class_ 1104), (0, u "java/lang/String$CaseInsensitiveComparator"), (1, .class_ 1107), (0, u "java/io/Serializable"), (0, .class_ 1109), (0, u "java/lang/Comparable"), (0, .class_ 1111), (0, u "java/lang/constant/Constable"), (0, .class_ 1113), (0, u "java/lang/constant/ConstantDesc"), (2, u "serialVersionUID"), (0, u "J"), (3, u "REPL"), (0, u "C"), (2, u "LATIN1"), (1, u "UTF16")] 323

def k7m0 : Method := { name := "<init>", desc := "()V", sig := { parameters := [], returnType := none }, accessFlags := 1, code := none }
def k7c1 : Code := { maxStack := 5, maxLocals := 2, code := jdk_42_method_3_code, exceptionTable := #[], attributes := #[] }
def k7m1 : Method := { name := "<init>", desc := "([C)V", sig := { parameters := [(.array .char)], returnType := none }, accessFlags := 1, code := some k7c1 }
def k7c2 : Code := { maxStack := 4, maxLocals := 1, code := jdk_42_method_139_code, exceptionTable := #[], attributes := #[] }
def k7m2 : Method := { name := "valueOf", desc := "(C)Ljava/lang/String;", sig := { parameters := [.char], returnType := some (.object "java/lang/String") }, accessFlags := 9, code := some k7c2 }
def k7c3 : Code := { maxStack := 4, maxLocals := 6, code := jdk_42_method_149_code, exceptionTable := #[], attributes := #[] }
def k7m3 : Method := { name := "<init>", desc := "([CIILjava/lang/Void;)V", sig := { parameters := [(.array .char), .int, .int, (.object "java/lang/Void")], returnType := none }, accessFlags := 2, code := some k7c3 }
def k7c4 : Code := { maxStack := 2, maxLocals := 3, code := jdk_42_method_151_code, exceptionTable := #[], attributes := #[] }
def k7m4 : Method := { name := "<init>", desc := "([BB)V", sig := { parameters := [(.array .byte), .byte], returnType := none }, accessFlags := 0, code := some k7c4 }
/-- java/lang/String -/
def k7 : Class := { plain "java/lang/String" (some 0) with
  accessFlags := 49
  interfaces := #[2, 3, 4, 5, 6]
  cf := some (fileOf pool7 10 #[.nestMembers #[1103]] #[{ accessFlags := 1, nameIndex := 5, descriptorIndex := 6, attributes := #[] }, { accessFlags := 1, nameIndex := 5, descriptorIndex := 1010, attributes := #[] }, { accessFlags := 9, nameIndex := 782, descriptorIndex := 783, attributes := #[] }, { accessFlags := 2, nameIndex := 5, descriptorIndex := 29, attributes := #[] }, { accessFlags := 0, nameIndex := 5, descriptorIndex := 211, attributes := #[] }] 49 2 #[1106, 1108, 575, 1110, 1112] #[{ accessFlags := 18, nameIndex := 13, descriptorIndex := 14, attributes := #[] }, { accessFlags := 18, nameIndex := 17, descriptorIndex := 18, attributes := #[] }, { accessFlags := 2, nameIndex := 21, descriptorIndex := 22, attributes := #[] }, { accessFlags := 2, nameIndex := 25, descriptorIndex := 26, attributes := #[] }, { accessFlags := 26, nameIndex := 1116, descriptorIndex := 1117, attributes := #[] }, { accessFlags := 24, nameIndex := 40, descriptorIndex := 26, attributes := #[] }, { accessFlags := 26, nameIndex := 1101, descriptorIndex := 1102, attributes := #[] }, { accessFlags := 26, nameIndex := 1121, descriptorIndex := 1122, attributes := #[] }, { accessFlags := 25, nameIndex := 599, descriptorIndex := 600, attributes := #[] }, { accessFlags := 24, nameIndex := 1125, descriptorIndex := 18, attributes := #[] }, { accessFlags := 24, nameIndex := 1127, descriptorIndex := 18, attributes := #[] }])
  fields := #[{ name := "value", type := (.array .byte), accessFlags := 18, slot := 0, constantValue := 0 }, { name := "coder", type := .byte, accessFlags := 18, slot := 1, constantValue := 0 }, { name := "hash", type := .int, accessFlags := 2, slot := 2, constantValue := 0 }, { name := "hashIsZero", type := .boolean, accessFlags := 2, slot := 3, constantValue := 0 }, { name := "serialVersionUID", type := .long, accessFlags := 26, slot := 0, constantValue := 0 }, { name := "COMPACT_STRINGS", type := .boolean, accessFlags := 24, slot := 1, constantValue := 0 }, { name := "serialPersistentFields", type := (.array (.object "java/io/ObjectStreamField")), accessFlags := 26, slot := 2, constantValue := 0 }, { name := "REPL", type := .char, accessFlags := 26, slot := 3, constantValue := 0 }, { name := "CASE_INSENSITIVE_ORDER", type := (.object "java/util/Comparator"), accessFlags := 25, slot := 4, constantValue := 0 }, { name := "LATIN1", type := .byte, accessFlags := 24, slot := 5, constantValue := 0 }, { name := "UTF16", type := .byte, accessFlags := 24, slot := 6, constantValue := 0 }]
  methods := #[k7m0, k7m1, k7m2, k7m3, k7m4]
  instanceTypes := #[(.array .byte), .byte, .int, .boolean]
  staticTypes := #[.long, .boolean, (.array (.object "java/io/ObjectStreamField")), .char, (.object "java/util/Comparator"), .byte, .byte]
  resolved := Array.replicate 1451 none
  statics := some 0 }

def pool8 : Array CpInfo := pool [(6, .class_ 8), (1, u "java/lang/Object"), (0, u "<init>"), (0, u "()V"), (1, .class_ 14), (1, u "java/lang/StringUTF16"), (31, u "$assertionsDisabled"), (0, u "Z"), (13, u "HI_BYTE_SHIFT"), (0, u "I"), (2, u "LO_BYTE_SHIFT"), (49, .methodref 12 116), (0, .nameAndType 117 118), (0, u "compress"), (0, u "([CI[BII)I"), (3, u "([CII)[B"), (138, u "coderFromArrayLen"), (0, u "([BI)B"), (106, .class_ 371), (1, u "java/lang/StringUTF16$LinesSpliterator"), (58, u "MAX_LENGTH"), (196, .class_ 628), (0, u "java/lang/StringUTF16$CodePointsSpliterator"), (0, .class_ 630), (0, u "java/lang/StringUTF16$CharsSpliterator")] 4

def k8m0 : Method := { name := "<init>", desc := "()V", sig := { parameters := [], returnType := none }, accessFlags := 0, code := none }
def k8c1 : Code := { maxStack := 2, maxLocals := 2, code := jdk_52_method_15_code, exceptionTable := #[], attributes := #[] }
def k8m1 : Method := { name := "coderFromArrayLen", desc := "([BI)B", sig := { parameters := [(.array .byte), .int], returnType := some .byte }, accessFlags := 8, code := some k8c1 }
def k8c2 : Code := { maxStack := 5, maxLocals := 6, code := jdk_52_method_16_code, exceptionTable := #[], attributes := #[] }
def k8m2 : Method := { name := "compress", desc := "([CII)[B", sig := { parameters := [(.array .char), .int, .int], returnType := some (.array .byte) }, accessFlags := 9, code := some k8c2 }
def k8c3 : Code := { maxStack := 3, maxLocals := 7, code := jdk_52_method_21_code, exceptionTable := #[], attributes := #[] }
def k8m3 : Method := { name := "compress", desc := "([CI[BII)I", sig := { parameters := [(.array .char), .int, (.array .byte), .int, .int], returnType := some .int }, accessFlags := 9, code := some k8c3 }
/-- java/lang/StringUTF16 -/
def k8 : Class := { plain "java/lang/StringUTF16" (some 0) with
  accessFlags := 48
  interfaces := #[]
  cf := some (fileOf pool8 12 #[.nestMembers #[627, 629, 369]] #[{ accessFlags := 0, nameIndex := 9, descriptorIndex := 10, attributes := #[] }, { accessFlags := 8, nameIndex := 261, descriptorIndex := 262, attributes := #[] }, { accessFlags := 9, nameIndex := 117, descriptorIndex := 122, attributes := #[] }, { accessFlags := 9, nameIndex := 117, descriptorIndex := 118, attributes := #[] }] 48 6 #[] #[{ accessFlags := 26, nameIndex := 61, descriptorIndex := 62, attributes := #[] }, { accessFlags := 26, nameIndex := 65, descriptorIndex := 62, attributes := #[] }, { accessFlags := 24, nameIndex := 430, descriptorIndex := 62, attributes := #[] }, { accessFlags := 4120, nameIndex := 46, descriptorIndex := 47, attributes := #[] }])
  fields := #[{ name := "HI_BYTE_SHIFT", type := .int, accessFlags := 26, slot := 0, constantValue := 0 }, { name := "LO_BYTE_SHIFT", type := .int, accessFlags := 26, slot := 1, constantValue := 0 }, { name := "MAX_LENGTH", type := .int, accessFlags := 24, slot := 2, constantValue := 0 }, { name := "$assertionsDisabled", type := .boolean, accessFlags := 4120, slot := 3, constantValue := 0 }]
  methods := #[k8m0, k8m1, k8m2, k8m3]
  instanceTypes := #[]
  staticTypes := #[.int, .int, .int, .boolean]
  resolved := Array.replicate 635 none
  statics := none }

def pool9 : Array CpInfo := pool [(4, .class_ 6), (1, u "java/lang/Object"), (0, u "<init>"), (0, u "()V"), (5, .class_ 16), (1, u "java/lang/StringLatin1"), (73, u "canEncode"), (14, u "(C)Z"), (15, u "$assertionsDisabled"), (0, u "Z"), (98, .class_ 223), (1, u "java/lang/StringLatin1$LinesSpliterator"), (156, u "toBytes"), (1, u "(C)[B"), (7, .class_ 391), (0, u "java/lang/StringLatin1$CharsSpliterator")] 3

def k9m0 : Method := { name := "<init>", desc := "()V", sig := { parameters := [], returnType := none }, accessFlags := 0, code := none }
def k9c1 : Code := { maxStack := 2, maxLocals := 1, code := jdk_43_method_3_code, exceptionTable := #[], attributes := #[] }
def k9m1 : Method := { name := "canEncode", desc := "(C)Z", sig := { parameters := [.char], returnType := some .boolean }, accessFlags := 9, code := some k9c1 }
def k9c2 : Code := { maxStack := 4, maxLocals := 1, code := jdk_43_method_46_code, exceptionTable := #[], attributes := #[] }
def k9m2 : Method := { name := "toBytes", desc := "(C)[B", sig := { parameters := [.char], returnType := some (.array .byte) }, accessFlags := 9, code := some k9c2 }
/-- java/lang/StringLatin1 -/
def k9 : Class := { plain "java/lang/StringLatin1" (some 0) with
  accessFlags := 48
  interfaces := #[]
  cf := some (fileOf pool9 14 #[.nestMembers #[390, 221]] #[{ accessFlags := 0, nameIndex := 7, descriptorIndex := 8, attributes := #[] }, { accessFlags := 9, nameIndex := 90, descriptorIndex := 105, attributes := #[] }, { accessFlags := 9, nameIndex := 380, descriptorIndex := 382, attributes := #[] }] 48 4 #[] #[{ accessFlags := 4120, nameIndex := 121, descriptorIndex := 122, attributes := #[] }])
  fields := #[{ name := "$assertionsDisabled", type := .boolean, accessFlags := 4120, slot := 0, constantValue := 0 }]
  methods := #[k9m0, k9m1, k9m2]
  instanceTypes := #[]
  staticTypes := #[.boolean]
  resolved := Array.replicate 395 none
  statics := none }

def pool10 : Array CpInfo := pool [(8, .class_ 10), (1, u "java/lang/Iterable"), (24, .class_ 36), (0, u "java/lang/Object")] 25

/-- java/lang/Iterable -/
def k10 : Class := { plain "java/lang/Iterable" (some 0) with
  accessFlags := 1537
  interfaces := #[]
  cf := some (fileOf pool10 8 #[] #[] 1537 35 #[] #[])
  fields := #[]
  methods := #[]
  instanceTypes := #[]
  staticTypes := #[]
  resolved := Array.replicate 62 none
  statics := none }

def pool11 : Array CpInfo := pool [(10, .class_ 12), (1, u "java/util/Collection"), (47, .class_ 61), (0, u "java/lang/Object"), (0, .class_ 63), (0, u "java/lang/Iterable")] 51

/-- java/util/Collection -/
def k11 : Class := { plain "java/util/Collection" (some 0) with
  accessFlags := 1537
  interfaces := #[10]
  cf := some (fileOf pool11 10 #[] #[] 1537 60 #[62] #[])
  fields := #[]
  methods := #[]
  instanceTypes := #[]
  staticTypes := #[]
  resolved := Array.replicate 115 none
  statics := none }

def pool12 : Array CpInfo := pool [(1, .methodref 2 3), (0, .class_ 4), (0, .nameAndType 5 6), (0, u "java/lang/Object"), (0, u "<init>"), (0, u "()V"), (1, .class_ 10), (1, u "java/util/AbstractCollection"), (66, .class_ 78), (0, u "java/util/Collection")] 81

def k12c0 : Code := { maxStack := 1, maxLocals := 1, code := jdk_22_method_1_code, exceptionTable := #[], attributes := #[] }
def k12m0 : Method := { name := "<init>", desc := "()V", sig := { parameters := [], returnType := none }, accessFlags := 4, code := some k12c0 }
/-- java/util/AbstractCollection -/
def k12 : Class := { plain "java/util/AbstractCollection" (some 0) with
  accessFlags := 1057
  interfaces := #[11]
  cf := some (fileOf pool12 8 #[] #[{ accessFlags := 4, nameIndex := 5, descriptorIndex := 6, attributes := #[] }] 1057 2 #[77] #[])
  fields := #[]
  methods := #[k12m0]
  instanceTypes := #[]
  staticTypes := #[]
  resolved := Array.replicate 160 none
  statics := none }

def pool13 : Array CpInfo := pool [(8, .class_ 10), (1, u "java/util/SequencedCollection"), (15, .class_ 27), (0, u "java/lang/Object"), (0, .class_ 29), (0, u "java/util/Collection")] 27

/-- java/util/SequencedCollection -/
def k13 : Class := { plain "java/util/SequencedCollection" (some 0) with
  accessFlags := 1537
  interfaces := #[11]
  cf := some (fileOf pool13 8 #[] #[] 1537 26 #[28] #[])
  fields := #[]
  methods := #[]
  instanceTypes := #[]
  staticTypes := #[]
  resolved := Array.replicate 57 none
  statics := none }

def pool14 : Array CpInfo := pool [(8, .class_ 10), (1, u "java/util/List"), (92, .class_ 104), (0, u "java/lang/Object"), (15, .class_ 121), (0, u "java/util/SequencedCollection")] 129

/-- java/util/List -/
def k14 : Class := { plain "java/util/List" (some 0) with
  accessFlags := 1537
  interfaces := #[13]
  cf := some (fileOf pool14 8 #[] #[] 1537 103 #[120] #[])
  fields := #[]
  methods := #[]
  instanceTypes := #[]
  staticTypes := #[]
  resolved := Array.replicate 251 none
  statics := none }

def pool15 : Array CpInfo := pool [(1, .methodref 2 3), (0, .class_ 4), (0, .nameAndType 5 6), (0, u "java/util/AbstractCollection"), (0, u "<init>"), (0, u "()V"), (0, .fieldref 8 9), (0, .class_ 10), (0, .nameAndType 11 12), (0, u "java/util/AbstractList"), (0, u "modCount"), (0, u "I"), (64, .class_ 78), (0, u "java/util/AbstractList$Itr"), (3, .class_ 83), (0, u "java/util/AbstractList$ListItr"), (9, .class_ 94), (0, u "java/util/AbstractList$RandomAccessSubList"), (3, .class_ 99), (0, u "java/util/AbstractList$SubList"), (33, .class_ 134), (0, u "java/util/List"), (73, .class_ 209), (0, u "java/util/AbstractList$SubList$1"), (0, .class_ 211), (0, u "java/util/AbstractList$RandomAccessSpliterator")] 6

def k15c0 : Code := { maxStack := 2, maxLocals := 1, code := jdk_39_method_1_code, exceptionTable := #[], attributes := #[] }
def k15m0 : Method := { name := "<init>", desc := "()V", sig := { parameters := [], returnType := none }, accessFlags := 4, code := some k15c0 }
/-- java/util/AbstractList -/
def k15 : Class := { plain "java/util/AbstractList" (some 12) with
  accessFlags := 1057
  interfaces := #[14]
  cf := some (fileOf pool15 8 #[.nestMembers #[93, 98, 208, 210, 82, 77]] #[{ accessFlags := 4, nameIndex := 5, descriptorIndex := 6, attributes := #[] }] 1057 2 #[133] #[{ accessFlags := 132, nameIndex := 11, descriptorIndex := 12, attributes := #[] }])
  fields := #[{ name := "modCount", type := .int, accessFlags := 132, slot := 0, constantValue := 0 }]
  methods := #[k15m0]
  instanceTypes := #[.int]
  staticTypes := #[]
  resolved := Array.replicate 218 none
  statics := none }

def pool16 : Array CpInfo := pool [(1, .class_ 2), (0, u "java/util/RandomAccess"), (0, .class_ 4), (0, u "java/lang/Object")] 2

/-- java/util/RandomAccess -/
def k16 : Class := { plain "java/util/RandomAccess" (some 0) with
  accessFlags := 1537
  interfaces := #[]
  cf := some (fileOf pool16 1 #[] #[] 1537 3 #[] #[])
  fields := #[]
  methods := #[]
  instanceTypes := #[]
  staticTypes := #[]
  resolved := Array.replicate 7 none
  statics := none }

def pool17 : Array CpInfo := pool [(1, .class_ 2), (0, u "java/lang/Cloneable"), (0, .class_ 4), (0, u "java/lang/Object")] 2

/-- java/lang/Cloneable -/
def k17 : Class := { plain "java/lang/Cloneable" (some 0) with
  accessFlags := 1537
  interfaces := #[]
  cf := some (fileOf pool17 1 #[] #[] 1537 3 #[] #[])
  fields := #[]
  methods := #[]
  instanceTypes := #[]
  staticTypes := #[]
  resolved := Array.replicate 7 none
  statics := none }

def pool18 : Array CpInfo := pool [(1, .methodref 2 3), (0, .class_ 4), (0, .nameAndType 5 6), (0, u "java/util/AbstractList"), (0, u "<init>"), (0, u "()V"), (0, .class_ 8), (0, u "java/lang/Object"), (0, .fieldref 10 11), (0, .class_ 12), (0, .nameAndType 13 14), (0, u "java/util/ArrayList"), (0, u "elementData"), (0, u "[Ljava/lang/Object;"), (2, u "EMPTY_ELEMENTDATA"), (21, .fieldref 10 40), (0, .nameAndType 41 14), (0, u "DEFAULTCAPACITY_EMPTY_ELEMENTDATA"), (5, u "()[Ljava/lang/Object;"), (0, .fieldref 10 49), (0, .nameAndType 50 51), (0, u "size"), (0, u "I"), (11, .fieldref 10 64), (0, .nameAndType 65 51), (0, u "modCount"), (3, .methodref 10 70), (0, .nameAndType 71 72), (0, u "grow"), (0, u "(I)[Ljava/lang/Object;"), (6, .methodref 80 81), (0, .class_ 82), (0, .nameAndType 83 84), (0, u "java/lang/Math"), (0, u "max"), (0, u "(II)I"), (11, u "(Ljava/lang/Object;)Z"), (32, .methodref 10 130), (0, .nameAndType 71 47), (0, .methodref 10 132), (0, .nameAndType 133 134), (0, u "add"), (0, u "(Ljava/lang/Object;[Ljava/lang/Object;I)V"), (13, .class_ 149), (0, u "java/util/List"), (112, .class_ 263), (0, u "java/util/ArrayList$ListItr"), (3, .class_ 268), (0, u "java/util/ArrayList$Itr"), (7, .class_ 277), (0, u "java/util/ArrayList$SubList"), (12, .class_ 291), (0, u "java/util/ArrayList$ArrayListSpliterator"), (37, .class_ 330), (0, u "java/util/RandomAccess"), (0, .class_ 332), (0, u "java/lang/Cloneable"), (0, .class_ 334), (0, u "java/io/Serializable"), (0, u "serialVersionUID"), (0, u "J"), (3, u "DEFAULT_CAPACITY"), (159, .class_ 501), (0, u "java/util/ArrayList$SubList$2"), (0, .class_ 503), (0, u "java/util/ArrayList$SubList$1")] 5

def k18c0 : Code := { maxStack := 2, maxLocals := 1, code := jdk_38_method_2_code, exceptionTable := #[], attributes := #[] }
def k18m0 : Method := { name := "<init>", desc := "()V", sig := { parameters := [], returnType := none }, accessFlags := 1, code := some k18c0 }
def k18c1 : Code := { maxStack := 4, maxLocals := 4, code := jdk_38_method_6_code, exceptionTable := #[], attributes := #[] }
def k18m1 : Method := { name := "grow", desc := "(I)[Ljava/lang/Object;", sig := { parameters := [.int], returnType := some (.array (.object "java/lang/Object")) }, accessFlags := 2, code := some k18c1 }
def k18c2 : Code := { maxStack := 3, maxLocals := 1, code := jdk_38_method_7_code, exceptionTable := #[], attributes := #[] }
def k18m2 : Method := { name := "grow", desc := "()[Ljava/lang/Object;", sig := { parameters := [], returnType := some (.array (.object "java/lang/Object")) }, accessFlags := 2, code := some k18c2 }
def k18c3 : Code := { maxStack := 3, maxLocals := 4, code := jdk_38_method_24_code, exceptionTable := #[], attributes := #[] }
def k18m3 : Method := { name := "add", desc := "(Ljava/lang/Object;[Ljava/lang/Object;I)V", sig := { parameters := [(.object "java/lang/Object"), (.array (.object "java/lang/Object")), .int], returnType := none }, accessFlags := 2, code := some k18c3 }
def k18c4 : Code := { maxStack := 4, maxLocals := 2, code := jdk_38_method_25_code, exceptionTable := #[], attributes := #[] }
def k18m4 : Method := { name := "add", desc := "(Ljava/lang/Object;)Z", sig := { parameters := [(.object "java/lang/Object")], returnType := some .boolean }, accessFlags := 1, code := some k18c4 }
/-- java/util/ArrayList -/
def k18 : Class := { plain "java/util/ArrayList" (some 15) with
  accessFlags := 33
  interfaces := #[14, 16, 17, 2]
  cf := some (fileOf pool18 10 #[.nestMembers #[290, 276, 500, 502, 262, 267]] #[{ accessFlags := 1, nameIndex := 5, descriptorIndex := 6, attributes := #[] }, { accessFlags := 2, nameIndex := 71, descriptorIndex := 72, attributes := #[] }, { accessFlags := 2, nameIndex := 71, descriptorIndex := 47, attributes := #[] }, { accessFlags := 2, nameIndex := 133, descriptorIndex := 134, attributes := #[] }, { accessFlags := 1, nameIndex := 133, descriptorIndex := 96, attributes := #[] }] 33 2 #[148, 329, 331, 333] #[{ accessFlags := 26, nameIndex := 335, descriptorIndex := 336, attributes := #[] }, { accessFlags := 26, nameIndex := 340, descriptorIndex := 51, attributes := #[] }, { accessFlags := 26, nameIndex := 17, descriptorIndex := 14, attributes := #[] }, { accessFlags := 26, nameIndex := 41, descriptorIndex := 14, attributes := #[] }, { accessFlags := 128, nameIndex := 13, descriptorIndex := 14, attributes := #[] }, { accessFlags := 2, nameIndex := 50, descriptorIndex := 51, attributes := #[] }])
  fields := #[{ name := "serialVersionUID", type := .long, accessFlags := 26, slot := 0, constantValue := 0 }, { name := "DEFAULT_CAPACITY", type := .int, accessFlags := 26, slot := 1, constantValue := 0 }, { name := "EMPTY_ELEMENTDATA", type := (.array (.object "java/lang/Object")), accessFlags := 26, slot := 2, constantValue := 0 }, { name := "DEFAULTCAPACITY_EMPTY_ELEMENTDATA", type := (.array (.object "java/lang/Object")), accessFlags := 26, slot := 3, constantValue := 0 }, { name := "elementData", type := (.array (.object "java/lang/Object")), accessFlags := 128, slot := 1, constantValue := 0 }, { name := "size", type := .int, accessFlags := 2, slot := 2, constantValue := 0 }]
  methods := #[k18m0, k18m1, k18m2, k18m3, k18m4]
  instanceTypes := #[.int, (.array (.object "java/lang/Object")), .int]
  staticTypes := #[.long, .int, (.array (.object "java/lang/Object")), (.array (.object "java/lang/Object"))]
  resolved := Array.replicate 509 none
  statics := some 1 }

def pool19 : Array CpInfo := pool [(1, .class_ 2), (0, u "java/lang/Math"), (1, .class_ 6), (1, u "java/lang/Object"), (0, u "<init>"), (0, u "()V"), (89, .class_ 100), (1, u "java/lang/Math$RandomNumberGeneratorHolder"), (71, u "negativeZeroFloatBits"), (0, u "J"), (2, u "negativeZeroDoubleBits"), (21, u "max"), (46, u "$assertionsDisabled"), (0, u "Z"), (88, u "(II)I"), (2, u "twoToTheDoubleScaleDown"), (0, u "D"), (4, u "twoToTheDoubleScaleUp"), (9, u "E"), (3, u "PI"), (2, u "TAU"), (2, u "DEGREES_TO_RADIANS"), (0, u "RADIANS_TO_DEGREES")] 94

def k19m0 : Method := { name := "<init>", desc := "()V", sig := { parameters := [], returnType := none }, accessFlags := 2, code := none }
def k19c1 : Code := { maxStack := 2, maxLocals := 2, code := jdk_29_method_65_code, exceptionTable := #[], attributes := #[] }
def k19m1 : Method := { name := "max", desc := "(II)I", sig := { parameters := [.int, .int], returnType := some .int }, accessFlags := 9, code := some k19c1 }
/-- java/lang/Math -/
def k19 : Class := { plain "java/lang/Math" (some 0) with
  accessFlags := 49
  interfaces := #[]
  cf := some (fileOf pool19 1 #[.nestMembers #[98]] #[{ accessFlags := 2, nameIndex := 7, descriptorIndex := 8, attributes := #[] }, { accessFlags := 9, nameIndex := 198, descriptorIndex := 335, attributes := #[] }] 49 4 #[] #[{ accessFlags := 25, nameIndex := 354, descriptorIndex := 339, attributes := #[] }, { accessFlags := 25, nameIndex := 358, descriptorIndex := 339, attributes := #[] }, { accessFlags := 25, nameIndex := 361, descriptorIndex := 339, attributes := #[] }, { accessFlags := 26, nameIndex := 364, descriptorIndex := 339, attributes := #[] }, { accessFlags := 26, nameIndex := 365, descriptorIndex := 339, attributes := #[] }, { accessFlags := 26, nameIndex := 172, descriptorIndex := 173, attributes := #[] }, { accessFlags := 26, nameIndex := 176, descriptorIndex := 173, attributes := #[] }, { accessFlags := 8, nameIndex := 344, descriptorIndex := 339, attributes := #[] }, { accessFlags := 8, nameIndex := 338, descriptorIndex := 339, attributes := #[] }, { accessFlags := 4120, nameIndex := 245, descriptorIndex := 246, attributes := #[] }])
  fields := #[{ name := "E", type := .double, accessFlags := 25, slot := 0, constantValue := 0 }, { name := "PI", type := .double, accessFlags := 25, slot := 1, constantValue := 0 }, { name := "TAU", type := .double, accessFlags := 25, slot := 2, constantValue := 0 }, { name := "DEGREES_TO_RADIANS", type := .double, accessFlags := 26, slot := 3, constantValue := 0 }, { name := "RADIANS_TO_DEGREES", type := .double, accessFlags := 26, slot := 4, constantValue := 0 }, { name := "negativeZeroFloatBits", type := .long, accessFlags := 26, slot := 5, constantValue := 0 }, { name := "negativeZeroDoubleBits", type := .long, accessFlags := 26, slot := 6, constantValue := 0 }, { name := "twoToTheDoubleScaleUp", type := .double, accessFlags := 8, slot := 7, constantValue := 0 }, { name := "twoToTheDoubleScaleDown", type := .double, accessFlags := 8, slot := 8, constantValue := 0 }, { name := "$assertionsDisabled", type := .boolean, accessFlags := 4120, slot := 9, constantValue := 0 }]
  methods := #[k19m0, k19m1]
  instanceTypes := #[]
  staticTypes := #[.double, .double, .double, .double, .double, .long, .long, .double, .double, .boolean]
  resolved := Array.replicate 460 none
  statics := none }

def pool20 : Array CpInfo := pool [(1, .methodref 2 3), (0, .class_ 4), (0, .nameAndType 5 6), (0, u "java/lang/Object"), (0, u "<init>"), (0, u "()V"), (0, .long 18446744073709551615), (1, .fieldref 10 11), (0, .class_ 12), (0, .nameAndType 13 14), (0, u "com/example/occupancy/occupancy/HttpInput$Head"), (0, u "length"), (0, u "J"), (0, .fieldref 10 16), (0, .nameAndType 17 18), (0, u "method"), (0, u "Ljava/lang/String;"), (0, .fieldref 10 20), (0, .nameAndType 21 18), (0, u "path"), (0, .fieldref 10 23), (0, .nameAndType 24 25), (0, u "segments"), (0, u "Ljava/util/List;"), (0, .fieldref 10 27), (0, .nameAndType 28 29), (0, u "http10"), (0, u "Z"), (0, .fieldref 10 31), (0, .nameAndType 32 29), (0, u "close"), (2, u "expectsContinue"), (2, u "chunked"), (2, u "fetchSite"), (10, u "origin"), (2, u "host"), (6, u "hosts"), (0, u "I"), (0, u "(Ljava/lang/String;Ljava/lang/String;Ljava/util/List;Z)V"), (6, u "closes"), (0, u "()Z"), (5, .class_ 79), (0, u "com/example/occupancy/occupancy/HttpInput")] 16

def k20c0 : Code := { maxStack := 3, maxLocals := 5, code := prog_8_method_1_code, exceptionTable := #[], attributes := #[] }
def k20m0 : Method := { name := "<init>", desc := "(Ljava/lang/String;Ljava/lang/String;Ljava/util/List;Z)V", sig := { parameters := [(.object "java/lang/String"), (.object "java/lang/String"), (.object "java/util/List"), .boolean], returnType := none }, accessFlags := 0, code := some k20c0 }
def k20c1 : Code := { maxStack := 1, maxLocals := 1, code := prog_8_method_5_code, exceptionTable := #[], attributes := #[] }
def k20m1 : Method := { name := "closes", desc := "()Z", sig := { parameters := [], returnType := some .boolean }, accessFlags := 0, code := some k20c1 }
/-- com/example/occupancy/occupancy/HttpInput$Head -/
def k20 : Class := { plain "com/example/occupancy/occupancy/HttpInput$Head" (some 0) with
  accessFlags := 48
  interfaces := #[]
  cf := some (fileOf pool20 10 #[.nestHost 78] #[{ accessFlags := 0, nameIndex := 5, descriptorIndex := 64, attributes := #[] }, { accessFlags := 0, nameIndex := 71, descriptorIndex := 72, attributes := #[] }] 48 2 #[] #[{ accessFlags := 18, nameIndex := 17, descriptorIndex := 18, attributes := #[] }, { accessFlags := 18, nameIndex := 21, descriptorIndex := 18, attributes := #[] }, { accessFlags := 18, nameIndex := 24, descriptorIndex := 25, attributes := #[] }, { accessFlags := 18, nameIndex := 28, descriptorIndex := 29, attributes := #[] }, { accessFlags := 2, nameIndex := 13, descriptorIndex := 14, attributes := #[] }, { accessFlags := 2, nameIndex := 38, descriptorIndex := 29, attributes := #[] }, { accessFlags := 2, nameIndex := 32, descriptorIndex := 29, attributes := #[] }, { accessFlags := 2, nameIndex := 35, descriptorIndex := 29, attributes := #[] }, { accessFlags := 2, nameIndex := 62, descriptorIndex := 63, attributes := #[] }, { accessFlags := 2, nameIndex := 55, descriptorIndex := 18, attributes := #[] }, { accessFlags := 2, nameIndex := 52, descriptorIndex := 18, attributes := #[] }, { accessFlags := 2, nameIndex := 41, descriptorIndex := 18, attributes := #[] }])
  fields := #[{ name := "method", type := (.object "java/lang/String"), accessFlags := 18, slot := 0, constantValue := 0 }, { name := "path", type := (.object "java/lang/String"), accessFlags := 18, slot := 1, constantValue := 0 }, { name := "segments", type := (.object "java/util/List"), accessFlags := 18, slot := 2, constantValue := 0 }, { name := "http10", type := .boolean, accessFlags := 18, slot := 3, constantValue := 0 }, { name := "length", type := .long, accessFlags := 2, slot := 4, constantValue := 0 }, { name := "chunked", type := .boolean, accessFlags := 2, slot := 5, constantValue := 0 }, { name := "close", type := .boolean, accessFlags := 2, slot := 6, constantValue := 0 }, { name := "expectsContinue", type := .boolean, accessFlags := 2, slot := 7, constantValue := 0 }, { name := "hosts", type := .int, accessFlags := 2, slot := 8, constantValue := 0 }, { name := "host", type := (.object "java/lang/String"), accessFlags := 2, slot := 9, constantValue := 0 }, { name := "origin", type := (.object "java/lang/String"), accessFlags := 2, slot := 10, constantValue := 0 }, { name := "fetchSite", type := (.object "java/lang/String"), accessFlags := 2, slot := 11, constantValue := 0 }]
  methods := #[k20m0, k20m1]
  instanceTypes := #[(.object "java/lang/String"), (.object "java/lang/String"), (.object "java/util/List"), .boolean, .long, .boolean, .boolean, .boolean, .int, (.object "java/lang/String"), (.object "java/lang/String"), (.object "java/lang/String")]
  staticTypes := #[]
  resolved := Array.replicate 96 none
  statics := none }

def pool21 : Array CpInfo := pool [(2, .class_ 4), (1, u "java/lang/Object"), (0, u "<init>"), (0, u "()V"), (17, .class_ 26), (1, u "jdk/internal/util/Preconditions"), (28, .class_ 56), (0, u "jdk/internal/util/Preconditions$4"), (57, .class_ 115), (0, u "jdk/internal/util/Preconditions$1"), (7, u "SIOOBE_FORMATTER"), (0, u "Ljava/util/function/BiFunction;"), (0, .class_ 126), (0, u "jdk/internal/util/Preconditions$2"), (3, u "AIOOBE_FORMATTER"), (0, .class_ 132), (0, u "jdk/internal/util/Preconditions$3"), (3, u "IOOBE_FORMATTER")] 57

def k21m0 : Method := { name := "<init>", desc := "()V", sig := { parameters := [], returnType := none }, accessFlags := 1, code := none }
/-- jdk/internal/util/Preconditions -/
def k21 : Class := { plain "jdk/internal/util/Preconditions" (some 0) with
  accessFlags := 33
  interfaces := #[]
  cf := some (fileOf pool21 24 #[.nestMembers #[55, 131, 125, 114]] #[{ accessFlags := 1, nameIndex := 5, descriptorIndex := 6, attributes := #[] }] 33 2 #[] #[{ accessFlags := 25, nameIndex := 123, descriptorIndex := 124, attributes := #[] }, { accessFlags := 25, nameIndex := 130, descriptorIndex := 124, attributes := #[] }, { accessFlags := 25, nameIndex := 136, descriptorIndex := 124, attributes := #[] }])
  fields := #[{ name := "SIOOBE_FORMATTER", type := (.object "java/util/function/BiFunction"), accessFlags := 25, slot := 0, constantValue := 0 }, { name := "AIOOBE_FORMATTER", type := (.object "java/util/function/BiFunction"), accessFlags := 25, slot := 1, constantValue := 0 }, { name := "IOOBE_FORMATTER", type := (.object "java/util/function/BiFunction"), accessFlags := 25, slot := 2, constantValue := 0 }]
  methods := #[k21m0]
  instanceTypes := #[]
  staticTypes := #[(.object "java/util/function/BiFunction"), (.object "java/util/function/BiFunction"), (.object "java/util/function/BiFunction")]
  resolved := Array.replicate 194 none
  statics := some 2 }

def pool22 : Array CpInfo := pool [(9, u "<init>"), (6, .class_ 18), (1, u "java/lang/Object"), (0, u "()V"), (1, .class_ 23), (1, u "jdk/internal/util/ArraysSupport"), (0, u "LOG2_ARRAY_LONG_INDEX_SCALE"), (0, u "I"), (2, u "U"), (0, u "Ljdk/internal/misc/Unsafe;"), (8, u "BIG_ENDIAN"), (0, u "Z"), (8, u "LOG2_BYTE_BIT_SIZE"), (4, u "LOG2_ARRAY_INT_INDEX_SCALE"), (54, u "JLA"), (0, u "Ljdk/internal/access/JavaLangAccess;"), (11, u "LOG2_ARRAY_BOOLEAN_INDEX_SCALE"), (9, u "LOG2_ARRAY_BYTE_INDEX_SCALE"), (5, u "LOG2_ARRAY_CHAR_INDEX_SCALE"), (5, u "LOG2_ARRAY_SHORT_INDEX_SCALE"), (18, u "LOG2_ARRAY_FLOAT_INDEX_SCALE"), (24, u "LOG2_ARRAY_DOUBLE_INDEX_SCALE"), (89, u "T_BOOLEAN"), (2, u "T_CHAR"), (1, u "T_FLOAT"), (1, u "T_DOUBLE"), (1, u "T_BYTE"), (1, u "T_SHORT"), (1, u "T_INT"), (1, u "T_LONG"), (1, u "SOFT_MAX_ARRAY_LENGTH")] 83

def k22m0 : Method := { name := "<init>", desc := "()V", sig := { parameters := [], returnType := none }, accessFlags := 2, code := none }
/-- jdk/internal/util/ArraysSupport -/
def k22 : Class := { plain "jdk/internal/util/ArraysSupport" (some 0) with
  accessFlags := 33
  interfaces := #[]
  cf := some (fileOf pool22 21 #[] #[{ accessFlags := 2, nameIndex := 9, descriptorIndex := 19, attributes := #[] }] 33 16 #[] #[{ accessFlags := 24, nameIndex := 28, descriptorIndex := 29, attributes := #[] }, { accessFlags := 26, nameIndex := 38, descriptorIndex := 39, attributes := #[] }, { accessFlags := 25, nameIndex := 121, descriptorIndex := 25, attributes := #[] }, { accessFlags := 25, nameIndex := 131, descriptorIndex := 25, attributes := #[] }, { accessFlags := 25, nameIndex := 137, descriptorIndex := 25, attributes := #[] }, { accessFlags := 25, nameIndex := 143, descriptorIndex := 25, attributes := #[] }, { accessFlags := 25, nameIndex := 53, descriptorIndex := 25, attributes := #[] }, { accessFlags := 25, nameIndex := 24, descriptorIndex := 25, attributes := #[] }, { accessFlags := 25, nameIndex := 162, descriptorIndex := 25, attributes := #[] }, { accessFlags := 25, nameIndex := 187, descriptorIndex := 25, attributes := #[] }, { accessFlags := 26, nameIndex := 48, descriptorIndex := 25, attributes := #[] }, { accessFlags := 25, nameIndex := 277, descriptorIndex := 25, attributes := #[] }, { accessFlags := 25, nameIndex := 280, descriptorIndex := 25, attributes := #[] }, { accessFlags := 25, nameIndex := 282, descriptorIndex := 25, attributes := #[] }, { accessFlags := 25, nameIndex := 284, descriptorIndex := 25, attributes := #[] }, { accessFlags := 25, nameIndex := 286, descriptorIndex := 25, attributes := #[] }, { accessFlags := 25, nameIndex := 288, descriptorIndex := 25, attributes := #[] }, { accessFlags := 25, nameIndex := 290, descriptorIndex := 25, attributes := #[] }, { accessFlags := 25, nameIndex := 292, descriptorIndex := 25, attributes := #[] }, { accessFlags := 26, nameIndex := 108, descriptorIndex := 109, attributes := #[] }, { accessFlags := 25, nameIndex := 294, descriptorIndex := 25, attributes := #[] }])
  fields := #[{ name := "U", type := (.object "jdk/internal/misc/Unsafe"), accessFlags := 24, slot := 0, constantValue := 0 }, { name := "BIG_ENDIAN", type := .boolean, accessFlags := 26, slot := 1, constantValue := 0 }, { name := "LOG2_ARRAY_BOOLEAN_INDEX_SCALE", type := .int, accessFlags := 25, slot := 2, constantValue := 0 }, { name := "LOG2_ARRAY_BYTE_INDEX_SCALE", type := .int, accessFlags := 25, slot := 3, constantValue := 0 }, { name := "LOG2_ARRAY_CHAR_INDEX_SCALE", type := .int, accessFlags := 25, slot := 4, constantValue := 0 }, { name := "LOG2_ARRAY_SHORT_INDEX_SCALE", type := .int, accessFlags := 25, slot := 5, constantValue := 0 }, { name := "LOG2_ARRAY_INT_INDEX_SCALE", type := .int, accessFlags := 25, slot := 6, constantValue := 0 }, { name := "LOG2_ARRAY_LONG_INDEX_SCALE", type := .int, accessFlags := 25, slot := 7, constantValue := 0 }, { name := "LOG2_ARRAY_FLOAT_INDEX_SCALE", type := .int, accessFlags := 25, slot := 8, constantValue := 0 }, { name := "LOG2_ARRAY_DOUBLE_INDEX_SCALE", type := .int, accessFlags := 25, slot := 9, constantValue := 0 }, { name := "LOG2_BYTE_BIT_SIZE", type := .int, accessFlags := 26, slot := 10, constantValue := 0 }, { name := "T_BOOLEAN", type := .int, accessFlags := 25, slot := 11, constantValue := 0 }, { name := "T_CHAR", type := .int, accessFlags := 25, slot := 12, constantValue := 0 }, { name := "T_FLOAT", type := .int, accessFlags := 25, slot := 13, constantValue := 0 }, { name := "T_DOUBLE", type := .int, accessFlags := 25, slot := 14, constantValue := 0 }, { name := "T_BYTE", type := .int, accessFlags := 25, slot := 15, constantValue := 0 }, { name := "T_SHORT", type := .int, accessFlags := 25, slot := 16, constantValue := 0 }, { name := "T_INT", type := .int, accessFlags := 25, slot := 17, constantValue := 0 }, { name := "T_LONG", type := .int, accessFlags := 25, slot := 18, constantValue := 0 }, { name := "JLA", type := (.object "jdk/internal/access/JavaLangAccess"), accessFlags := 26, slot := 19, constantValue := 0 }, { name := "SOFT_MAX_ARRAY_LENGTH", type := .int, accessFlags := 25, slot := 20, constantValue := 0 }]
  methods := #[k22m0]
  instanceTypes := #[]
  staticTypes := #[(.object "jdk/internal/misc/Unsafe"), .boolean, .int, .int, .int, .int, .int, .int, .int, .int, .int, .int, .int, .int, .int, .int, .int, .int, .int, (.object "jdk/internal/access/JavaLangAccess"), .int]
  resolved := Array.replicate 378 none
  statics := none }

/-- the primitive byte -/
def k23 : Class := { plain "byte" none with kind := .primitive 'B', accessFlags := 0x411 }
/-- [B -/
def k24 : Class := { plain "[B" (some 0) with kind := .array 23 .byte, interfaces := #[17, 2], accessFlags := 1041 }

/-- the primitive char -/
def k25 : Class := { plain "char" none with kind := .primitive 'C', accessFlags := 0x411 }
/-- [C -/
def k26 : Class := { plain "[C" (some 0) with kind := .array 25 .char, interfaces := #[17, 2], accessFlags := 1041 }

/-- the primitive int -/
def k27 : Class := { plain "int" none with kind := .primitive 'I', accessFlags := 0x411 }
/-- [I -/
def k28 : Class := { plain "[I" (some 0) with kind := .array 27 .int, interfaces := #[17, 2], accessFlags := 1041 }

/-- [Ljava/lang/Object; -/
def k29 : Class := { plain "[Ljava/lang/Object;" (some 0) with kind := .array 0 (.object "java/lang/Object"), interfaces := #[17, 2], accessFlags := 1041 }

def heap : Heap := #[{ cls := 7, slots := #[.long 0, .int 1, .null, .int 0, .null, .int 0, .int 0], vm := .statics 7 },
  { cls := 18, slots := #[.long 0, .int 0, .ref 3, .ref 4], vm := .statics 18 },
  { cls := 21, slots := #[.null, .null, .null], vm := .statics 21 },
  { cls := 29, slots := #[], vm := .none },
  { cls := 29, slots := #[], vm := .none }]
def classes : Array Class := #[k0, k1, k2, k3, k4, k5, k6, k7, k8, k9, k10, k11, k12, k13, k14, k15, k16, k17, k18, k19, k20, k21, k22, k23, k24, k25, k26, k27, k28, k29]
def interned : List (Array UInt16 × Addr) := []
def slotsUsed : Nat := 14
def theMethod : MethodId := ⟨1, 1⟩
def args0 : Array Value := #[.int 5, .int 7, .int 6]
def aboutOver (below : List Frame) : State where
  vm := { classes := classes, interned := interned.toArray }
  heap := heap
  slotsUsed := slotsUsed
  threads := #[{ frames := .invoking theMethod args0 :: below }]
def below0 : List Frame := [.native { method := ⟨0, 0⟩, args := #[] }]
def about1 : State := aboutOver below0
def p0 : Program := .bare "" "" ""
def e0 : Env := launch0.env 0 0 0
theorem w_frames : about1.frames = Frame.invoking theMethod args0 :: below0 := rfl
set_option maxRecDepth 65536 in
theorem w_args : argsFit about1.vm theMethod args0 = true := by decide +kernel
set_option maxRecDepth 65536 in
theorem w_heap : heapFits about1 = true := by decide +kernel
set_option maxRecDepth 65536 in
theorem w_runnable : about1.curStatus? = some .runnable := by decide +kernel
set_option maxRecDepth 65536 in
theorem w_alone : about1.alone = true := by decide +kernel
set_option maxRecDepth 65536 in
theorem w_named : about1.methodNamed? x = some theMethod := by decide +kernel
set_option maxRecDepth 65536 in
theorem w_hears : about1.hears theMethod below0 = true := by decide +kernel
set_option maxRecDepth 65536 in
theorem w_ripe : about1.ripe theMethod args0 below0 = true := by decide +kernel
theorem w_running : about1.status = .running := rfl
set_option maxRecDepth 65536 in
theorem w_room : about1.hasRoom e0.platform room_1 = true :=
  launch0.hasRoom_least _ room_1 (by decide +kernel) (by decide +kernel) (by decide +kernel) (by decide +kernel) (by decide +kernel) (by decide +kernel)
theorem allAtoms_all (ts : List Jvm.Cond) (a : Array Jvm.Value) (st : Jvm.State) : (allAtoms ts).before a st = ts.all (fun c => c.before a st) := by
  induction ts with
  | nil => rfl
  | cons c t ih =>
    show (Jvm.Cond.and c (allAtoms t)).before a st = _
    rw [Jvm.Cond.before_and, ih, List.all_cons]
def words1 : List Jvm.Cond := Jvm.Cond.code x code maxLocals ret :: tables_1
/-- a 'code' word, met by the world's own term for the bytes: nothing is compared byte by byte -/
theorem code_word {y : MethodName} {bytes : ByteArray} {mx : Nat} {rt : Option FieldType} {a : Array Value} {s : State} {m : MethodId} {meth : Method} {c : Code} (h1 : s.methodNamed? y = some m) (h2 : s.vm.method? m = some meth) (h3 : meth.code = some c) (h4 : c.code = bytes)
    (h5 : (c.maxLocals == mx && c.exceptionTable.isEmpty && decide (c.maxStack ≤ mostOperands) && decide (meth.sig.returnType = rt) && !meth.locks && decide (parseMethodDescriptor y.desc = some meth.sig)) = true) : (Jvm.Cond.code y bytes mx rt).before a s = true := by
  simp only [Bool.and_eq_true, beq_iff_eq, Bool.not_eq_true', decide_eq_true_eq] at h5
  obtain ⟨⟨⟨⟨⟨g1, g2⟩, g3⟩, g4⟩, g5⟩, g6⟩ := h5
  simp [Cond.before, Cond.holds, Cond.value, h1, h2, h3, h4, g1, g2, g3, g4, g5, g6]
def isCode : Jvm.Cond → Bool
  | .code _ _ _ _ => true
  | _ => false
theorem all_split {L : List Jvm.Cond} {P : Jvm.Cond → Bool} (h1 : L.all (fun c => isCode c || P c) = true) (h2 : ∀ c ∈ L.filter isCode, P c = true) : L.all P = true := by
  refine List.all_eq_true.mpr fun c hc => ?_
  have h := List.all_eq_true.mp h1 c hc
  rcases Bool.eq_false_or_eq_true (isCode c) with hi | hi
  · exact h2 c (List.mem_filter.mpr ⟨hc, hi⟩)
  · simpa [hi] using h
set_option maxRecDepth 65536 in
theorem w_c0 : (Jvm.Cond.code x code maxLocals ret).before args0 about1 = true := code_word (m := ⟨1, 1⟩) (meth := k1m1) (c := k1c1) (by decide +kernel) rfl rfl rfl (by decide +kernel)
set_option maxRecDepth 65536 in
theorem w_c1 : (Jvm.Cond.code ({ cls := "java/lang/String", name := "<init>", desc := "([C)V" } : Jvm.MethodName) jdk_42_method_3_code (2 : Nat) (Option.none : Option Jvm.ClassFile.FieldType)).before args0 about1 = true := code_word (m := ⟨7, 1⟩) (meth := k7m1) (c := k7c1) (by decide +kernel) rfl rfl rfl (by decide +kernel)
set_option maxRecDepth 65536 in
theorem w_c2 : (Jvm.Cond.code ({ cls := "java/lang/String", name := "<init>", desc := "([CIILjava/lang/Void;)V" } : Jvm.MethodName) jdk_42_method_149_code (6 : Nat) (Option.none : Option Jvm.ClassFile.FieldType)).before args0 about1 = true := code_word (m := ⟨7, 3⟩) (meth := k7m3) (c := k7c3) (by decide +kernel) rfl rfl rfl (by decide +kernel)
set_option maxRecDepth 65536 in
theorem w_c3 : (Jvm.Cond.code ({ cls := "java/lang/Object", name := "<init>", desc := "()V" } : Jvm.MethodName) object_method_1_code (1 : Nat) (Option.none : Option Jvm.ClassFile.FieldType)).before args0 about1 = true := code_word (m := ⟨0, 0⟩) (meth := k0m0) (c := k0c0) (by decide +kernel) rfl rfl rfl (by decide +kernel)
set_option maxRecDepth 65536 in
theorem w_c4 : (Jvm.Cond.code ({ cls := "java/lang/StringUTF16", name := "compress", desc := "([CII)[B" } : Jvm.MethodName) jdk_52_method_16_code (6 : Nat) (Option.some (Jvm.ClassFile.FieldType.array Jvm.ClassFile.FieldType.byte))).before args0 about1 = true := code_word (m := ⟨8, 2⟩) (meth := k8m2) (c := k8c2) (by decide +kernel) rfl rfl rfl (by decide +kernel)
set_option maxRecDepth 65536 in
theorem w_c5 : (Jvm.Cond.code ({ cls := "java/lang/StringUTF16", name := "compress", desc := "([CI[BII)I" } : Jvm.MethodName) jdk_52_method_21_code (7 : Nat) (Option.some Jvm.ClassFile.FieldType.int)).before args0 about1 = true := code_word (m := ⟨8, 3⟩) (meth := k8m3) (c := k8c3) (by decide +kernel) rfl rfl rfl (by decide +kernel)
set_option maxRecDepth 65536 in
theorem w_c6 : (Jvm.Cond.code ({ cls := "java/lang/StringUTF16", name := "coderFromArrayLen", desc := "([BI)B" } : Jvm.MethodName) jdk_52_method_15_code (2 : Nat) (Option.some Jvm.ClassFile.FieldType.byte)).before args0 about1 = true := code_word (m := ⟨8, 1⟩) (meth := k8m1) (c := k8c1) (by decide +kernel) rfl rfl rfl (by decide +kernel)
set_option maxRecDepth 65536 in
theorem w_c7 : (Jvm.Cond.code ({ cls := "java/lang/String", name := "valueOf", desc := "(C)Ljava/lang/String;" } : Jvm.MethodName) jdk_42_method_139_code (1 : Nat) (Option.some (Jvm.ClassFile.FieldType.object "java/lang/String"))).before args0 about1 = true := code_word (m := ⟨7, 2⟩) (meth := k7m2) (c := k7c2) (by decide +kernel) rfl rfl rfl (by decide +kernel)
set_option maxRecDepth 65536 in
theorem w_c8 : (Jvm.Cond.code ({ cls := "java/lang/StringLatin1", name := "canEncode", desc := "(C)Z" } : Jvm.MethodName) jdk_43_method_3_code (1 : Nat) (Option.some Jvm.ClassFile.FieldType.boolean)).before args0 about1 = true := code_word (m := ⟨9, 1⟩) (meth := k9m1) (c := k9c1) (by decide +kernel) rfl rfl rfl (by decide +kernel)
set_option maxRecDepth 65536 in
theorem w_c9 : (Jvm.Cond.code ({ cls := "java/lang/StringLatin1", name := "toBytes", desc := "(C)[B" } : Jvm.MethodName) jdk_43_method_46_code (1 : Nat) (Option.some (Jvm.ClassFile.FieldType.array Jvm.ClassFile.FieldType.byte))).before args0 about1 = true := code_word (m := ⟨9, 2⟩) (meth := k9m2) (c := k9c2) (by decide +kernel) rfl rfl rfl (by decide +kernel)
set_option maxRecDepth 65536 in
theorem w_c10 : (Jvm.Cond.code ({ cls := "java/lang/String", name := "<init>", desc := "([BB)V" } : Jvm.MethodName) jdk_42_method_151_code (3 : Nat) (Option.none : Option Jvm.ClassFile.FieldType)).before args0 about1 = true := code_word (m := ⟨7, 4⟩) (meth := k7m4) (c := k7c4) (by decide +kernel) rfl rfl rfl (by decide +kernel)
set_option maxRecDepth 65536 in
theorem w_c11 : (Jvm.Cond.code ({ cls := "java/util/ArrayList", name := "<init>", desc := "()V" } : Jvm.MethodName) jdk_38_method_2_code (1 : Nat) (Option.none : Option Jvm.ClassFile.FieldType)).before args0 about1 = true := code_word (m := ⟨18, 0⟩) (meth := k18m0) (c := k18c0) (by decide +kernel) rfl rfl rfl (by decide +kernel)
set_option maxRecDepth 65536 in
theorem w_c12 : (Jvm.Cond.code ({ cls := "java/util/AbstractList", name := "<init>", desc := "()V" } : Jvm.MethodName) jdk_39_method_1_code (1 : Nat) (Option.none : Option Jvm.ClassFile.FieldType)).before args0 about1 = true := code_word (m := ⟨15, 0⟩) (meth := k15m0) (c := k15c0) (by decide +kernel) rfl rfl rfl (by decide +kernel)
set_option maxRecDepth 65536 in
theorem w_c13 : (Jvm.Cond.code ({ cls := "java/util/AbstractCollection", name := "<init>", desc := "()V" } : Jvm.MethodName) jdk_22_method_1_code (1 : Nat) (Option.none : Option Jvm.ClassFile.FieldType)).before args0 about1 = true := code_word (m := ⟨12, 0⟩) (meth := k12m0) (c := k12c0) (by decide +kernel) rfl rfl rfl (by decide +kernel)
set_option maxRecDepth 65536 in
theorem w_c14 : (Jvm.Cond.code ({ cls := "java/util/ArrayList", name := "add", desc := "(Ljava/lang/Object;)Z" } : Jvm.MethodName) jdk_38_method_25_code (2 : Nat) (Option.some Jvm.ClassFile.FieldType.boolean)).before args0 about1 = true := code_word (m := ⟨18, 4⟩) (meth := k18m4) (c := k18c4) (by decide +kernel) rfl rfl rfl (by decide +kernel)
set_option maxRecDepth 65536 in
theorem w_c15 : (Jvm.Cond.code ({ cls := "java/util/ArrayList", name := "add", desc := "(Ljava/lang/Object;[Ljava/lang/Object;I)V" } : Jvm.MethodName) jdk_38_method_24_code (4 : Nat) (Option.none : Option Jvm.ClassFile.FieldType)).before args0 about1 = true := code_word (m := ⟨18, 3⟩) (meth := k18m3) (c := k18c3) (by decide +kernel) rfl rfl rfl (by decide +kernel)
set_option maxRecDepth 65536 in
theorem w_c16 : (Jvm.Cond.code ({ cls := "java/util/ArrayList", name := "grow", desc := "()[Ljava/lang/Object;" } : Jvm.MethodName) jdk_38_method_7_code (1 : Nat) (Option.some (Jvm.ClassFile.FieldType.array (Jvm.ClassFile.FieldType.object "java/lang/Object")))).before args0 about1 = true := code_word (m := ⟨18, 2⟩) (meth := k18m2) (c := k18c2) (by decide +kernel) rfl rfl rfl (by decide +kernel)
set_option maxRecDepth 65536 in
theorem w_c17 : (Jvm.Cond.code ({ cls := "java/util/ArrayList", name := "grow", desc := "(I)[Ljava/lang/Object;" } : Jvm.MethodName) jdk_38_method_6_code (4 : Nat) (Option.some (Jvm.ClassFile.FieldType.array (Jvm.ClassFile.FieldType.object "java/lang/Object")))).before args0 about1 = true := code_word (m := ⟨18, 1⟩) (meth := k18m1) (c := k18c1) (by decide +kernel) rfl rfl rfl (by decide +kernel)
set_option maxRecDepth 65536 in
theorem w_c18 : (Jvm.Cond.code ({ cls := "java/lang/Math", name := "max", desc := "(II)I" } : Jvm.MethodName) jdk_29_method_65_code (2 : Nat) (Option.some Jvm.ClassFile.FieldType.int)).before args0 about1 = true := code_word (m := ⟨19, 1⟩) (meth := k19m1) (c := k19c1) (by decide +kernel) rfl rfl rfl (by decide +kernel)
set_option maxRecDepth 65536 in
theorem w_c19 : (Jvm.Cond.code ({ cls := "com/example/occupancy/occupancy/HttpInput$Head", name := "<init>", desc := "(Ljava/lang/String;Ljava/lang/String;Ljava/util/List;Z)V" } : Jvm.MethodName) prog_8_method_1_code (5 : Nat) (Option.none : Option Jvm.ClassFile.FieldType)).before args0 about1 = true := code_word (m := ⟨20, 0⟩) (meth := k20m0) (c := k20c0) (by decide +kernel) rfl rfl rfl (by decide +kernel)
set_option maxRecDepth 65536 in
theorem w_c20 : (Jvm.Cond.code ({ cls := "com/example/occupancy/occupancy/HttpInput$Head", name := "closes", desc := "()Z" } : Jvm.MethodName) prog_8_method_5_code (1 : Nat) (Option.some Jvm.ClassFile.FieldType.boolean)).before args0 about1 = true := code_word (m := ⟨20, 1⟩) (meth := k20m1) (c := k20c1) (by decide +kernel) rfl rfl rfl (by decide +kernel)
def codes1 : List Jvm.Cond := [Jvm.Cond.code x code maxLocals ret, Jvm.Cond.code ({ cls := "java/lang/String", name := "<init>", desc := "([C)V" } : Jvm.MethodName) jdk_42_method_3_code (2 : Nat) (Option.none : Option Jvm.ClassFile.FieldType), Jvm.Cond.code ({ cls := "java/lang/String", name := "<init>", desc := "([CIILjava/lang/Void;)V" } : Jvm.MethodName) jdk_42_method_149_code (6 : Nat) (Option.none : Option Jvm.ClassFile.FieldType), Jvm.Cond.code ({ cls := "java/lang/Object", name := "<init>", desc := "()V" } : Jvm.MethodName) object_method_1_code (1 : Nat) (Option.none : Option Jvm.ClassFile.FieldType), Jvm.Cond.code ({ cls := "java/lang/StringUTF16", name := "compress", desc := "([CII)[B" } : Jvm.MethodName) jdk_52_method_16_code (6 : Nat) (Option.some (Jvm.ClassFile.FieldType.array Jvm.ClassFile.FieldType.byte)), Jvm.Cond.code ({ cls := "java/lang/StringUTF16", name := "compress", desc := "([CI[BII)I" } : Jvm.MethodName) jdk_52_method_21_code (7 : Nat) (Option.some Jvm.ClassFile.FieldType.int), Jvm.Cond.code ({ cls := "java/lang/StringUTF16", name := "coderFromArrayLen", desc := "([BI)B" } : Jvm.MethodName) jdk_52_method_15_code (2 : Nat) (Option.some Jvm.ClassFile.FieldType.byte), Jvm.Cond.code ({ cls := "java/lang/String", name := "valueOf", desc := "(C)Ljava/lang/String;" } : Jvm.MethodName) jdk_42_method_139_code (1 : Nat) (Option.some (Jvm.ClassFile.FieldType.object "java/lang/String")), Jvm.Cond.code ({ cls := "java/lang/StringLatin1", name := "canEncode", desc := "(C)Z" } : Jvm.MethodName) jdk_43_method_3_code (1 : Nat) (Option.some Jvm.ClassFile.FieldType.boolean), Jvm.Cond.code ({ cls := "java/lang/StringLatin1", name := "toBytes", desc := "(C)[B" } : Jvm.MethodName) jdk_43_method_46_code (1 : Nat) (Option.some (Jvm.ClassFile.FieldType.array Jvm.ClassFile.FieldType.byte)), Jvm.Cond.code ({ cls := "java/lang/String", name := "<init>", desc := "([BB)V" } : Jvm.MethodName) jdk_42_method_151_code (3 : Nat) (Option.none : Option Jvm.ClassFile.FieldType), Jvm.Cond.code ({ cls := "java/util/ArrayList", name := "<init>", desc := "()V" } : Jvm.MethodName) jdk_38_method_2_code (1 : Nat) (Option.none : Option Jvm.ClassFile.FieldType), Jvm.Cond.code ({ cls := "java/util/AbstractList", name := "<init>", desc := "()V" } : Jvm.MethodName) jdk_39_method_1_code (1 : Nat) (Option.none : Option Jvm.ClassFile.FieldType), Jvm.Cond.code ({ cls := "java/util/AbstractCollection", name := "<init>", desc := "()V" } : Jvm.MethodName) jdk_22_method_1_code (1 : Nat) (Option.none : Option Jvm.ClassFile.FieldType), Jvm.Cond.code ({ cls := "java/util/ArrayList", name := "add", desc := "(Ljava/lang/Object;)Z" } : Jvm.MethodName) jdk_38_method_25_code (2 : Nat) (Option.some Jvm.ClassFile.FieldType.boolean), Jvm.Cond.code ({ cls := "java/util/ArrayList", name := "add", desc := "(Ljava/lang/Object;[Ljava/lang/Object;I)V" } : Jvm.MethodName) jdk_38_method_24_code (4 : Nat) (Option.none : Option Jvm.ClassFile.FieldType), Jvm.Cond.code ({ cls := "java/util/ArrayList", name := "grow", desc := "()[Ljava/lang/Object;" } : Jvm.MethodName) jdk_38_method_7_code (1 : Nat) (Option.some (Jvm.ClassFile.FieldType.array (Jvm.ClassFile.FieldType.object "java/lang/Object"))), Jvm.Cond.code ({ cls := "java/util/ArrayList", name := "grow", desc := "(I)[Ljava/lang/Object;" } : Jvm.MethodName) jdk_38_method_6_code (4 : Nat) (Option.some (Jvm.ClassFile.FieldType.array (Jvm.ClassFile.FieldType.object "java/lang/Object"))), Jvm.Cond.code ({ cls := "java/lang/Math", name := "max", desc := "(II)I" } : Jvm.MethodName) jdk_29_method_65_code (2 : Nat) (Option.some Jvm.ClassFile.FieldType.int), Jvm.Cond.code ({ cls := "com/example/occupancy/occupancy/HttpInput$Head", name := "<init>", desc := "(Ljava/lang/String;Ljava/lang/String;Ljava/util/List;Z)V" } : Jvm.MethodName) prog_8_method_1_code (5 : Nat) (Option.none : Option Jvm.ClassFile.FieldType), Jvm.Cond.code ({ cls := "com/example/occupancy/occupancy/HttpInput$Head", name := "closes", desc := "()Z" } : Jvm.MethodName) prog_8_method_5_code (1 : Nat) (Option.some Jvm.ClassFile.FieldType.boolean)]
set_option maxRecDepth 65536 in
theorem codes_eq : words1.filter isCode = codes1 := rfl
theorem w_codes : ∀ c ∈ words1.filter isCode, c.before args0 about1 = true := by
  rw [codes_eq]
  intro c hc
  simp only [codes1, List.mem_cons, List.not_mem_nil, or_false] at hc
  rcases hc with rfl | rfl | rfl | rfl | rfl | rfl | rfl | rfl | rfl | rfl | rfl | rfl | rfl | rfl | rfl | rfl | rfl | rfl | rfl | rfl | rfl
  · exact w_c0
  · exact w_c1
  · exact w_c2
  · exact w_c3
  · exact w_c4
  · exact w_c5
  · exact w_c6
  · exact w_c7
  · exact w_c8
  · exact w_c9
  · exact w_c10
  · exact w_c11
  · exact w_c12
  · exact w_c13
  · exact w_c14
  · exact w_c15
  · exact w_c16
  · exact w_c17
  · exact w_c18
  · exact w_c19
  · exact w_c20
set_option maxRecDepth 65536 in
theorem w_t1 : (words1.take 24).all (fun c => isCode c || c.before args0 about1) = true := by decide +kernel
set_option maxRecDepth 65536 in
theorem w_t2 : ((words1.drop 24).take 24).all (fun c => isCode c || c.before args0 about1) = true := by decide +kernel
set_option maxRecDepth 65536 in
theorem w_t3 : (((words1.drop 24).drop 24).take 24).all (fun c => isCode c || c.before args0 about1) = true := by decide +kernel
set_option maxRecDepth 65536 in
theorem w_t4 : ((((words1.drop 24).drop 24).drop 24).take 24).all (fun c => isCode c || c.before args0 about1) = true := by decide +kernel
set_option maxRecDepth 65536 in
theorem w_t5 : (((((words1.drop 24).drop 24).drop 24).drop 24).take 24).all (fun c => isCode c || c.before args0 about1) = true := by decide +kernel
set_option maxRecDepth 65536 in
theorem w_t6 : (((((words1.drop 24).drop 24).drop 24).drop 24).drop 24).all (fun c => isCode c || c.before args0 about1) = true := by decide +kernel
theorem w_tables : (allAtoms (Jvm.Cond.code x code maxLocals ret :: tables_1)).before args0 about1 = true := by
  rw [allAtoms_all]
  show words1.all (fun c => c.before args0 about1) = true
  refine all_split ?_ w_codes
  rw [← List.take_append_drop 24 words1, List.all_append, w_t1, ← List.take_append_drop 24 (words1.drop 24), List.all_append, w_t2, ← List.take_append_drop 24 ((words1.drop 24).drop 24), List.all_append, w_t3, ← List.take_append_drop 24 (((words1.drop 24).drop 24).drop 24), List.all_append, w_t4, ← List.take_append_drop 24 ((((words1.drop 24).drop 24).drop 24).drop 24), List.all_append, w_t5, w_t6]
  rfl
set_option maxRecDepth 65536 in
theorem w_rest : rest_1_c.before args0 about1 = true := by decide +kernel
set_option maxRecDepth 65536 in
theorem w_case : (Jvm.Cond.and given_1 narrow_1).before args0 about1 = true := by decide +kernel
theorem w_applies : (headSpec (Jvm.Cond.code x code maxLocals ret :: tables_1) room_1).applies x e0.platform about1 = true :=
  (Spec.applies_iff w_frames).mpr ⟨w_running, w_runnable, w_alone, w_named, w_hears, w_ripe, w_room, w_tables⟩
theorem atStart : AtStart classFile x code maxLocals ret World_1 tables_1 room_1 Calls_1 rest_1 Pre_1 launch0 p0 e0 about1 theMethod args0 below0 :=
  ⟨lists_1, trivial, launch0.admits_env _ _ _, launch0.least_env, fairChoices_fair.cas, fairChoices_fair.clock, w_frames, w_args, w_heap, w_applies, trivial, w_rest, w_case⟩
end start1
theorem witness_1 : WitnessClaimed_1 := ⟨start1.p0, start1.e0, start1.about1, start1.theMethod, start1.args0, start1.below0, start1.atStart⟩
end Jvm.Pilot.@@N@@
