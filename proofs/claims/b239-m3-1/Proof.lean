import JvmDerived
import JvmDerived.Pilot.@@N@@Statement
import JvmDerived.Pilot.@@N@@Code
set_option linter.unusedVariables false
set_option linter.unusedSimpArgs false
@@BLOCK:NumsL.lean.txt@@
namespace Jvm.RoadKit
open Sem ClassFile Op Lib Jvm.Stand Jvm.Free Jvm.LawKit
section New
variable {p : Program} {l : Launch} {e : Env} {R : Room} {s : State} {m : MethodId} {args : Array Value} {below : List Frame} {meth : Method} {c : Code} {T : State} {locs : List Loc} {cells slots : Nat}
theorem retI (X : Stand p l e R s m args below meth c T locs cells slots) (hx : p.tables.exec = Jvm.exec) {pc : Nat} {Ls : Array Slot} {z : Int32} {rest : List Value} (hret : meth.sig.returnType = some .int) (hd : decode c.code pc = .ok (.ireturn, 1)) {fs : List Frame}
    (hl : ∀ (f : JFrame) (acts : List Action), f.method = m → f.locked = none → f.entered = [] → (doReturn e (T.setTop f) acts (some (.int z))).1 = T.setFrames fs) : Steps p.tables e below (T.setTop (mkF m pc Ls (.int z :: rest))) (T.setFrames fs) := by
  have hm' : T.vm.method? m = some meth := X.method'
  have hn : narrow .int (.int z) = .int z := rfl
  show Steps p.tables e below (T.setTop { method := m, pc := pc, locals := Ls, stack := _ :: rest, locked := none }) _
  jvm_step X.here [X.here.top, hx, hd, hm', hret, hn]
  first | (intro acts; rw [hl _ acts rfl rfl rfl]) | rw [hl _ _ rfl rfl rfl]
  exact Steps.refl _
end New
end Jvm.RoadKit
namespace Jvm.OwnRuns
open Jvm Sem ClassFile Op Lib Jvm.Stand Jvm.Free Jvm.LawKit Jvm.RoadKit
/-- from the state T the invocation comes to its end, and there Φ holds -/
def Runs (tb : Tables) (e : Env) (below : List Frame) (Φ : Outcome → State → Prop) (T : State) : Prop := ∃ s₂ o, Steps tb e below T s₂ ∧ s₂.status = .running ∧ Ended s₂ below o ∧ Φ o s₂
abbrev Phi (s : State) (Q : Option Value → Heap → List Loc → Prop) (k n : Nat) (o : Outcome) (U' : State) : Prop := ∃ v L, o = .returned v ∧ Q v U'.heap L ∧ FrameEnd s o U' L k n
theorem Runs.st {tb : Tables} {e : Env} {below : List Frame} {Φ : Outcome → State → Prop} {T T' : State} (h : ∀ t, Steps tb e below T' t → Steps tb e below T t) (r : Runs tb e below Φ T') : Runs tb e below Φ T := by
  obtain ⟨a, o, h1, h2⟩ := r
  exact ⟨a, o, h a h1, h2⟩
theorem Runs.tr {tb : Tables} {e : Env} {below : List Frame} {Φ : Outcome → State → Prop} {T T' : State} (h : Steps tb e below T T') (r : Runs tb e below Φ T') : Runs tb e below Φ T := Runs.st (fun _ k => h.trans k) r
section Laws
variable {p : Program} {l : Launch} {e : Env} {R : Room} {s : State} {m : MethodId} {args : Array Value} {below : List Frame} {meth : Method} {c : Code} {T : State} {locs : List Loc} {cells slots : Nat}
theorem Runs.ret (X : Stand p l e R s m args below meth c T locs cells slots) (hlk : meth.locks = false) {v : Option Value} (hv : meth.sig.returnType = none → v = none) {Q : Option Value → Heap → List Loc → Prop} {k n : Nat} (hk : cells ≤ k) (hn : slots ≤ n) (hQ : Q v T.heap locs) {T0 : State}
    (hst : ∀ fs : List Frame, (∀ (f : JFrame) (acts : List Action), f.method = m → f.locked = none → f.entered = [] → (doReturn e (T.setTop f) acts v).1 = T.setFrames fs) → Steps p.tables e below T0 (T.setFrames fs)) : Runs p.tables e below (Phi s Q k n) T0 := by
  obtain ⟨fs, hr, hrun, hended, hW, hsame⟩ := X.leave hv hlk
  exact ⟨_, _, hst fs hr, hrun, hended, _, _, rfl, hQ, ⟨_, rfl⟩, hW, hsame.mono hk hn⟩
theorem wider (X : Stand p l e R s m args below meth c T locs cells slots) {c' s' : Nat} (hc : cells ≤ c') (hs : slots ≤ s') : Stand p l e R s m args below meth c T locs c' s' := { X with same := X.same.mono hc hs }
abbrev PhiW (s : State) (Q : Option Value → Heap → List Loc → Prop) (k n : Nat) (o : Outcome) (U' : State) : Prop := ∃ v L, o = .returned v ∧ Q v U'.heap L ∧ ReturnedEndW s o U' L k n
theorem Runs.retW {vm₁ : Vm} (X : Stand p l e R (s.setVm vm₁) m args below meth c T locs cells slots) {n1 : Nat} (hS : s.Since vm₁ n1) (hk1 : n1 ≤ T.heap.size) (hlk : meth.locks = false) {v : Option Value} (hv : meth.sig.returnType = none → v = none) {Q : Option Value → Heap → List Loc → Prop} {k n : Nat} (hk : cells ≤ k) (hn : slots ≤ n) (hQ : Q v T.heap locs) {T0 : State}
    (hst : ∀ fs : List Frame, (∀ (f : JFrame) (acts : List Action), f.method = m → f.locked = none → f.entered = [] → (doReturn e (T.setTop f) acts v).1 = T.setFrames fs) → Steps p.tables e below T0 (T.setFrames fs)) : Runs p.tables e below (PhiW s Q k n) T0 := by
  obtain ⟨fs, hr, hrun, hended, hW⟩ := (wider X hk hn).leaveW hS hk1 hv hlk
  exact ⟨_, _, hst fs hr, hrun, hended, _, _, rfl, hQ, hW⟩
abbrev PhiH (Z : State) (EL : List (String × Nat)) (s : State) (Q : Option Value → Heap → List Loc → Prop) (k n : Nat) (o : Outcome) (U' : State) : Prop := ∃ v L, o = .returned v ∧ Q v U'.heap L ∧ CHr Z EL s.vm s.heap U'.vm U'.heap ∧ ReturnedEndW s o U' L k n
theorem Runs.retH {Z : State} {EL : List (String × Nat)} {vm₁ : Vm} (X : Stand p l e R (s.setVm vm₁) m args below meth c T locs cells slots) {n1 : Nat} (hS : s.Since vm₁ n1) (hk1 : n1 ≤ T.heap.size) (hlk : meth.locks = false) {v : Option Value} (hv : meth.sig.returnType = none → v = none) {Q : Option Value → Heap → List Loc → Prop} {k n : Nat} (hk : cells ≤ k) (hn : slots ≤ n) (hQ : Q v T.heap locs) (hC : CHr Z EL s.vm s.heap T.vm T.heap) {T0 : State}
    (hst : ∀ fs : List Frame, (∀ (f : JFrame) (acts : List Action), f.method = m → f.locked = none → f.entered = [] → (doReturn e (T.setTop f) acts v).1 = T.setFrames fs) → Steps p.tables e below T0 (T.setFrames fs)) : Runs p.tables e below (PhiH Z EL s Q k n) T0 := by
  obtain ⟨fs, hr, hrun, hended, hW⟩ := (wider X hk hn).leaveW hS hk1 hv hlk
  exact ⟨_, _, hst fs hr, hrun, hended, _, _, rfl, hQ, hC, hW⟩
end Laws
section Facts
variable {Z : State} {h h' : Heap} {a : Addr} {C n d : String} {v : Value} {bo : Bool} {ws : List Addr}
theorem Ins_keep (F : Ins Z h a C bo) (K : Keep h h' ws) : Ins Z h' a C bo := by
  obtain ⟨cell, cT, h1, h2, h3⟩ := F
  obtain ⟨c', e1, e2, e3, -⟩ := K.2.2 _ _ h1
  exact ⟨c', cT, e1, h2, by rw [e2, e3]; exact h3⟩
theorem narrow_ref {t : FieldType} {v : Value} (h : v.isRef = true) : narrow t v = v := by rcases ref_cases h with rfl | ⟨_, rfl⟩ <;> cases t <;> rfl
end Facts
end Jvm.OwnRuns
namespace Jvm.OwnRuns
open Jvm Sem ClassFile Op Lib Jvm.Stand Jvm.Free Jvm.LawKit Jvm.RoadKit
section Words
variable {args : Array Value} {s : State} {t : Term}
theorem val_int {k : Int32} (h : (Cond.eq t (.int k)).value args s none s [] = some true) : t.eval args s none [] s = some (.int k) := Cond.eq_int (Cond.before_iff.mpr h) rfl
theorem the_static {C n d K : String} (h : (Cond.exactly (.static C n d) K).value args s none s [] = some true) (h1 : (Cond.initialized C).before args s = true) (h2 : (Cond.laysStatic C n d).before args s = true) :
    ∃ a, (Term.static C n d).eval args s none [] s = some (.ref a) ∧ Sta s s.heap C n d (.ref a) ∧ Exa s s.heap a K := by
  obtain ⟨a, e⟩ := exa_v h
  exact ⟨a, e, Sta.start e (Or.inr ⟨h1, h2⟩), Exa.start e h⟩
theorem the_int {C n d : String} {a : Addr} {k : Int32} (e : t.eval args s none [] s = some (.ref a)) (h : (Cond.eq (.field t C n d) (.int k)).value args s none s [] = some true) : Fld s s.heap a C n d (.int k) :=
  Fld.start ((fld_at e).symm.trans (val_int h))
theorem the_ref {C n d K : String} {a : Addr} (e : t.eval args s none [] s = some (.ref a)) (h : (Cond.exactly (.field t C n d) K).value args s none s [] = some true) :
    ∃ b, (Term.field t C n d).eval args s none [] s = some (.ref b) ∧ Fld s s.heap a C n d (.ref b) ∧ Exa s s.heap b K := by
  obtain ⟨b, eb⟩ := exa_v h
  exact ⟨b, eb, Fld.start ((fld_at e).symm.trans eb), Exa.start eb h⟩
theorem the_arr {C n d : String} {ty : FieldType} {a : Addr} (e : t.eval args s none [] s = some (.ref a)) (h : (Cond.arrayOf (.field t C n d) ty).value args s none s [] = some true) :
    ∃ b cl, (Term.field t C n d).eval args s none [] s = some (.ref b) ∧ Fld s s.heap a C n d (.ref b) ∧ Arr s s.heap b cl ty := by
  obtain ⟨b, eb⟩ := arr_v h
  obtain ⟨cl, A⟩ := Arr.start eb h
  exact ⟨b, cl, eb, Fld.start ((fld_at e).symm.trans eb), A⟩
theorem the_len {b : Addr} {cl : Cell} {ty : FieldType} {z : Int32} (e : t.eval args s none [] s = some (.ref b)) (A : Arr s s.heap b cl ty) (h : (Cond.eq (.length t) (.int z)).value args s none s [] = some true) : cl.slots.size < 2 ^ 31 ∧ cl.slots.size.toInt32 = z := by
  have hv := val_int h
  obtain ⟨x, c', e1, e2, -⟩ := Term.length_spec hv
  cases e.symm.trans e1
  have e3 := A.fin (Vm.Alike.refl _)
  cases e2.symm.trans e3
  have h31 := SBG.length_lt e1 e2 hv
  exact ⟨h31, Value.int.inj (Option.some.inj ((len_f e e3 h31).symm.trans hv))⟩
theorem the_elem {b : Addr} {cl : Cell} {ty : FieldType} {j k : Int32} (e : t.eval args s none [] s = some (.ref b)) (A : Arr s s.heap b cl ty) (h : (Cond.eq (.elem t (.int j)) (.int k)).value args s none s [] = some true) : cl.slots[j.toNatClampNeg]? = some (.int k) :=
  (elem_in (val_int h) e rfl A.1).2
end Words
end Jvm.OwnRuns
namespace Jvm.OwnRuns
open Jvm Sem ClassFile Op Lib Jvm.Stand Jvm.Free Jvm.LawKit Jvm.RoadKit
theorem fld_one {Z : State} {h : Heap} {a b d : Addr} {C n t : String} (F : Fld Z h a C n t (.ref b)) (G : Fld Z h a C n t (.ref d)) : b = d := by
  obtain ⟨c1, _, _, _, f1, h1, h2, -, -, -, -, h7⟩ := F
  obtain ⟨c2, _, _, _, f2, g1, g2, -, -, -, -, g7⟩ := G
  cases h1.symm.trans g1; cases h2.symm.trans g2
  exact Value.ref.inj (Option.some.inj (h7.symm.trans g7))
theorem arv_len {Z : State} {h : Heap} {a : Addr} {k k' : ClassId} {ty ty' : FieldType} {z z' : Int32} {vs vs' : List Value} {d d' : Value} (F : Arv Z h a k ty z vs d) (G : Arv Z h a k' ty' z' vs' d') : z = z' := by
  obtain ⟨c1, A1, -, S1, M1, -⟩ := F
  obtain ⟨c2, A2, -, S2, M2, -⟩ := G
  cases A1.1.symm.trans A2.1
  rw [← len_of S1 M1, ← len_of S2 M2]
end Jvm.OwnRuns
namespace Jvm.OwnRuns
open Jvm Sem ClassFile Op Lib Bundle Jvm.Stand Jvm.Free Jvm.LawKit Jvm.RoadKit Jvm.Free.SB Jvm.Free.SBG
/-- a String whose value is still null is no constant that the tables hold -/
theorem safe_null {Z : State} {EL : List (String × Nat)} {vm : Vm} {h : Heap} {x : Addr} {a0 : Array Value} {kk : Nat} (hal : Z.vm.Alike vm) (F : Fld Z h x "java/lang/String" "value" "[B" .null) (E : Exa Z h x "java/lang/String") (wi : (Cond.instantiable "java/lang/String" kk).before a0 Z = true) : Safe Z EL vm h x := fun B => by
  obtain ⟨pp, hp, u, a, hb, q, hqa, ⟨cS, ⟨⟨s1, s2, s3, ⟨cv, kv, iv, s4, s4'⟩, s5, s6, s7, s8, s9, s10, s11, s12, s13⟩, hfS, hcS⟩, r⟩, hy⟩ := B
  rcases hy with rfl | rfl
  · obtain ⟨cell, cf, k, i, f, h1, h2, h3, h4, h5, h6, h7⟩ := F
    have e1 : cell = q.sC := Option.some.inj (h1.symm.trans s1)
    obtain ⟨kv', z4⟩ := ff_back (U := Wst Z vm h) hal s4
    cases h2.symm.trans z4
    subst e1
    exact absurd (h7.symm.trans s8) (by simp)
  · obtain ⟨c1, k1, e1, e2, e3, e4, e5⟩ := E
    have e6 : c1 = q.SA := Option.some.inj (e1.symm.trans s10)
    subst e6
    obtain ⟨c2, k2, i1, i2, i3, -⟩ := Cond.instantiable_spec wi
    cases e2.symm.trans i1
    obtain ⟨-, k3, j1, comp, j2⟩ := s11
    obtain ⟨k4, j3, j4⟩ := hal.2.2 _ _ i2
    have j1' : vm.classes[q.SA.cls]? = some k3 := j1
    cases j1'.symm.trans j3
    rw [j4] at j2
    have j5 := i3.symm.trans j2
    cases j5
end Jvm.OwnRuns
namespace Jvm.Pilot.@@N@@
open Jvm Jvm.ClassFile Sem Op Lib Jvm.Free Jvm.Stand Jvm.LawKit Jvm.RoadKit Bundle Jvm.OwnRuns Jvm.Pilot.@@N@@.Jvm.D
theorem own_ch (c : Int32) (h : 0 ≤ c.toInt ∧ c.toInt ≤ 255) : c = nar .char (((nar .byte (c.toInt8.toInt32)) &&& (255 : Int32)).toUInt32.toUInt16.toUInt32.toInt32) := by
  apply Int32.toInt_inj.mp
  have a := c_i2b c
  have b := c_i2b c.toInt8.toInt32
  have m : ((c.toInt8.toInt32.toInt8.toInt32) &&& (255 : Int32)).toInt = (c.toInt8.toInt32.toInt8.toInt32).toInt % 2 ^ 8 := Jvm.Kit.i32_mask _ 255 (k := 8) (by decide) (by decide)
  have d := c_i2c ((c.toInt8.toInt32.toInt8.toInt32) &&& (255 : Int32))
  have e := c_i2c (((c.toInt8.toInt32.toInt8.toInt32) &&& (255 : Int32)).toUInt32.toUInt16.toUInt32.toInt32)
  simp only [nar]
  omega
theorem own_bl (c z : Int32) (h : 0 ≤ c.toInt ∧ c.toInt ≤ 255) (hz : 0 ≤ z.toInt ∧ z.toInt < 128) : nar .byte (c.toInt8.toInt32) = z ↔ c = z := by
  have a := c_i2b c
  have b := c_i2b c.toInt8.toInt32
  rw [← Int32.toInt_inj, ← Int32.toInt_inj]
  simp only [nar]
  omega
theorem own_u (c : Int32) (h : 0 ≤ c.toInt ∧ c.toInt ≤ 255) : ¬ ((255 : Int32) < c) := by
  rw [Int32.lt_iff_toInt_lt]
  change ¬ ((255 : Int) < _)
  omega
theorem own_i2c (x : Int32) : 0 ≤ ((x &&& (255 : Int32)).toUInt32.toUInt16.toUInt32.toInt32).toInt ∧ ((x &&& (255 : Int32)).toUInt32.toUInt16.toUInt32.toInt32).toInt ≤ 255 := by
  have a : (x &&& (255 : Int32)).toInt = x.toInt % 2 ^ 8 := Jvm.Kit.i32_mask x 255 (k := 8) (by decide) (by decide)
  have b := c_i2c (x &&& (255 : Int32))
  omega
theorem own_nar (c : Int32) (h : 0 ≤ c.toInt ∧ c.toInt ≤ 255) : 0 ≤ (nar .char c).toInt ∧ (nar .char c).toInt ≤ 255 := by
  have b := c_i2c c
  simp only [nar]
  omega
def Q_rmIE0 (Z : State) (a : Addr) (d : Addr)  (h0 : Heap) (n0 : Nat) : Option Value → Heap → List Loc → Prop := (fun v h L => v = none ∧ Fr n0 L ∧ Keep h0 h [a] ∧ Exa Z h a "java/lang/String" ∧ Fld Z h a "java/lang/String" "coder" "B" (.int (0 : Int32)) ∧ ∃ b k2, Fld Z h a "java/lang/String" "value" "[B" (.ref b) ∧ Arv Z h b k2 .byte (0 : Int32) [] (.int (0 : Int32)))
theorem pn_java_lang_String : plainName "java/lang/String" = true := by first | (simp [plainName, overriddenIn]; done) | decide +kernel
theorem ef_jdk_42_method_149_RRIIN (m : MethodId) (x0 : Addr) (x1 : Addr) (x2 : Int32) (x3 : Int32)  : entryFrame m #[(.ref x0), (.ref x1), (.int x2), (.int x3), .null] 6 = mkF m 0 #[.val (.ref x0), .val (.ref x1), .val (.int x2), .val (.int x3), .val .null, .unset] [] := by first | (simp [entryFrame, mkF, argsToLocals, Value.category]; done) | rfl
theorem d_jdk_42_method_149_0 : decode jdk_42_method_149_code 0 = .ok (.aload_n 0, 1) := by decide +kernel
theorem d_jdk_42_method_149_1 : decode jdk_42_method_149_code 1 = .ok (.invokespecial 1, 3) := by decide +kernel
theorem d_jdk_42_method_149_4 : decode jdk_42_method_149_code 4 = .ok (.iload_n 3, 1) := by decide +kernel
theorem d_jdk_42_method_149_5 : decode jdk_42_method_149_code 5 = .ok (.ifCond .ne 22, 3) := by decide +kernel
theorem d_jdk_42_method_149_8 : decode jdk_42_method_149_code 8 = .ok (.aload_n 0, 1) := by decide +kernel
theorem d_jdk_42_method_149_9 : decode jdk_42_method_149_code 9 = .ok (.ldc 7, 2) := by decide +kernel
theorem d_jdk_42_method_149_11 : decode jdk_42_method_149_code 11 = .ok (.getfield 9, 3) := by decide +kernel
theorem d_jdk_42_method_149_14 : decode jdk_42_method_149_code 14 = .ok (.putfield 9, 3) := by decide +kernel
theorem d_jdk_42_method_149_17 : decode jdk_42_method_149_code 17 = .ok (.aload_n 0, 1) := by decide +kernel
theorem d_jdk_42_method_149_18 : decode jdk_42_method_149_code 18 = .ok (.ldc 7, 2) := by decide +kernel
theorem d_jdk_42_method_149_20 : decode jdk_42_method_149_code 20 = .ok (.getfield 15, 3) := by decide +kernel
theorem d_jdk_42_method_149_23 : decode jdk_42_method_149_code 23 = .ok (.putfield 15, 3) := by decide +kernel
theorem d_jdk_42_method_149_26 : decode jdk_42_method_149_code 26 = .ok (.return_, 1) := by decide +kernel
set_option maxRecDepth 65536 in
set_option maxHeartbeats 40000000 in
theorem rmIE0 (l : Launch) (Z : State) (a0 : Array Value) (hw : ∀ d ∈ tables_1, d.before a0 Z = true) (ws : List Jvm.Cond) (a : Addr) (d : Addr)  (h0 : Heap) (n0 : Nat) (Z0 : n0 ≤ h0.size) (E_a : Exa Z h0 a "java/lang/String") (F_v : Fld Z h0 a "java/lang/String" "value" "[B" .null) (F_c : Fld Z h0 a "java/lang/String" "coder" "B" (.int (0 : Int32))) (g_a : n0 ≤ a) (hEL : EW Z a0 [("java/lang/String", 7)]) :
    MetFree l (⟨"java/lang/String", "<init>", "([CIILjava/lang/Void;)V"⟩ : MethodName) (head1 (Jvm.Cond.code (⟨"java/lang/String", "<init>", "([CIILjava/lang/Void;)V"⟩ : MethodName) jdk_42_method_149_code 6 none :: ws) ({ frames := 1, cells := 2, slots := 4, locals := 12 } : Room)) (fun ar_ U => ar_ = #[(.ref a), (.ref d), (.int (0 : Int32)), (.int (0 : Int32)), .null] ∧ Z.Warmed39 U.vm ∧ U.heap = h0 ∧ CHv Z [("java/lang/String", 7)] U.vm h0) (fun _ _ _ _ _ => True) (fun _ U o U' => PhiH Z [("java/lang/String", 7)] U (Q_rmIE0 Z a d h0 n0) ({ frames := 1, cells := 2, slots := 4, locals := 12 } : Room).cells ({ frames := 1, cells := 2, slots := 4, locals := 12 } : Room).slots o U') := by
  refine MetFree.of_bodySF (plainFor_of_name pn_java_lang_String) hisR ?_
  intro p e s m args below meth c s₁ Bd hml0 hP hK
  obtain ⟨rfl, hZ, hh, HC0⟩ := hP
  have HR := CHr.refl HC0
  have hS : s.Since s.vm h0.size := (State.WarmedH.refl s).since _
  have hk := Nat.le_refl h0.size
  have hZ0 := hZ
  have hx := Bd.exec
  have hby := Bd.bytes
  have hlk := Bd.notSynchronized
  have hml : c.maxLocals = 6 := hml0
  have hown : s.vm.findClass "java/lang/String" = some m.cls := findClass_of_methodNamed Bd.named
  have hown0 := hown
  have hnm := (name_of_methodNamed Bd.named Bd.method).1
  have hret := Bd.returns
  have X0 : Stand p l e ({ frames := 1, cells := 2, slots := 4, locals := 12 } : Room) s m #[(.ref a), (.ref d), (.int (0 : Int32)), (.int (0 : Int32)), .null] below meth c s₁ [] 0 0 := Stand.of_body Bd
  have e0 : s₁.heap = h0 := by rw [← hh, Bd.state]; rfl
  have N0 := Fr.nil n0
  have sz := Z0
  have K := Keep.refl h0 [a]
  show Runs p.tables e below (PhiH Z [("java/lang/String", 7)] s (Q_rmIE0 Z a d h0 n0) ({ frames := 1, cells := 2, slots := 4, locals := 12 } : Room).cells ({ frames := 1, cells := 2, slots := 4, locals := 12 } : Room).slots) _
  refine Runs.st (fun t' k' => castTop (ef_jdk_42_method_149_RRIIN m a d (0 : Int32) (0 : Int32) ) k') ?_
  show Runs p.tables e below _ (s₁.setTop (mkF m 0 #[.val (.ref a), .val (.ref d), .val (.int (0 : Int32)), .val (.int (0 : Int32)), .val .null, .unset] []))
  have Sf_a := safe_null (EL := [("java/lang/String", 7)]) hZ.alike F_v E_a (hw _ (List.mem_of_getElem? (i := 3) rfl))
  refine Runs.st (fun t' k' => XS.aloadN X0.here hx rfl (hb hby d_jdk_42_method_149_0) rfl rfl k') ?_
  obtain ⟨T1_, X1_, e1_, st1_⟩ := initO X0 hx hZ hown (hw _ (List.mem_of_getElem? (i := 12) rfl)) (hw _ (List.mem_of_getElem? (i := 13) rfl)) (hw _ (List.mem_of_getElem? (i := 14) rfl)) e0 (g := (mkF m 1 #[.val (.ref a), .val (.ref d), .val (.int (0 : Int32)), .val (.int (0 : Int32)), .val .null, .unset] [(.ref a)])) rfl (by rw [hml]; rfl) rfl (hb hby d_jdk_42_method_149_1) (by decide) (W := 0) (by show 2 * 0 + _ ≤ _; exact Nat.le_of_eq rfl) (by decide)
  refine Runs.st (st1_) ?_
  show Runs p.tables e below _ (T1_.setTop (mkF m 4 #[.val (.ref a), .val (.ref d), .val (.int (0 : Int32)), .val (.int (0 : Int32)), .val .null, .unset] []))
  refine Runs.st (fun t' k' => XS.iloadN X1_.here hx rfl (hb hby d_jdk_42_method_149_4) rfl k') ?_
  refine Runs.st (fun t' k' => XS.ifNo X1_.here hx rfl (hb hby d_jdk_42_method_149_5) rfl ((if0 _ _).trans (teq rfl).2) k') ?_
  show Runs p.tables e below _ (T1_.setTop (mkF m 8 #[.val (.ref a), .val (.ref d), .val (.int (0 : Int32)), .val (.int (0 : Int32)), .val .null, .unset] []))
  refine Runs.st (fun t' k' => XS.aloadN X1_.here hx rfl (hb hby d_jdk_42_method_149_8) rfl rfl k') ?_
  have wS2_ : ∀ a ∈ Bundle.stringAtoms, a.before a0 Z = true := by
    intro a ha
    simp only [Bundle.stringAtoms, Bundle.sN, List.mem_cons, List.not_mem_nil, or_false] at ha
    rcases ha with rfl | rfl | rfl | rfl | rfl | rfl | rfl
    · exact (hw _ (List.mem_of_getElem? (i := 4) rfl))
    · exact (hw _ (List.mem_of_getElem? (i := 3) rfl))
    · exact (hw _ (List.mem_of_getElem? (i := 20) rfl))
    · exact (hw _ (List.mem_of_getElem? (i := 30) rfl))
    · exact (hw _ (List.mem_of_getElem? (i := 28) rfl))
    · exact (hw _ (List.mem_of_getElem? (i := 102) rfl))
    · exact (hw _ (List.mem_of_getElem? (i := 103) rfl))
  obtain ⟨lt, T2_, h2_, j2_, v_lt, kc2_, X2_, e2_, E2_, hS2_, hk2_, hZ2_, hown2_, E_lt, Fc_lt, Fv_lt, V_lt, -, -, HR2_, Lt_lt, hne2_, st2_⟩ := ldcCH (s := s) (vm0 := s.vm) (X := (show Stand p l e ({ frames := 1, cells := 2, slots := 4, locals := 12 } : Room) (s.setVm s.vm) m _ below meth c _ _ _ _ from X1_)) hx hZ hown (hw _ (List.mem_of_getElem? (i := 101) rfl)) wS2_ e1_ hS hk hEL (by simp) HR.1 (vs := []) (z := (0 : Int32)) ⟨by decide, by first | rfl | decide +kernel⟩ (by decide) (by decide) (g := (mkF m 9 #[.val (.ref a), .val (.ref d), .val (.int (0 : Int32)), .val (.int (0 : Int32)), .val .null, .unset] [(.ref a)])) rfl (hb hby d_jdk_42_method_149_9) (n := 0) (by decide) (by decide) (by decide) (by decide)
  replace Sf_a := HR2_.safe E_a.lt Sf_a
  replace HR := HR.trans HR2_
  refine Runs.st st2_ ?_
  replace E_a := E_a.ext E2_
  replace F_v := F_v.ext E2_
  replace F_c := F_c.ext E2_
  replace sz := Nat.le_trans sz E2_.1
  replace K := K.ext E2_
  replace hk := Nat.le_trans hk E2_.1
  have hS := hS2_
  have hk := hk2_
  have hZ := hZ2_
  have hown := hown2_
  show Runs p.tables e below _ (T2_.setTop (mkF m 11 #[.val (.ref a), .val (.ref d), .val (.int (0 : Int32)), .val (.int (0 : Int32)), .val .null, .unset] [(.ref lt), (.ref a)]))
  obtain ⟨ne_a_lt, ne_a_v_lt⟩ := hne2_ a Sf_a
  obtain ⟨T3_, X3_, e3_, st3_⟩ := getF X2_ hx hZ hown (host := "") (Or.inl (hw _ (List.mem_of_getElem? (i := 29) rfl))) Via.refl e2_ Fv_lt (g := (mkF m 11 #[.val (.ref a), .val (.ref d), .val (.int (0 : Int32)), .val (.int (0 : Int32)), .val .null, .unset] [(.ref lt), (.ref a)])) rfl rfl (hb hby d_jdk_42_method_149_11)
  refine Runs.st (st3_) ?_
  show Runs p.tables e below _ (T3_.setTop (mkF m 14 #[.val (.ref a), .val (.ref d), .val (.int (0 : Int32)), .val (.int (0 : Int32)), .val .null, .unset] [(.ref v_lt), (.ref a)]))
  obtain ⟨T4_, h4_, X4_, e4_, W4_, st4_⟩ := putF X3_ hx hZ hown (host := "") (Or.inl (hw _ (List.mem_of_getElem? (i := 29) rfl))) Via.refl e3_ F_v E_a (Or.inr ⟨(hw _ (List.mem_of_getElem? (i := 30) rfl)), rfl, hnm⟩) (hw _ (List.mem_of_getElem? (i := 3) rfl)) (ty := (.array .byte)) (by decide) rfl rfl (g := (mkF m 14 #[.val (.ref a), .val (.ref d), .val (.int (0 : Int32)), .val (.int (0 : Int32)), .val .null, .unset] [(.ref v_lt), (.ref a)])) rfl rfl (hb hby d_jdk_42_method_149_14)
  refine Runs.st (st4_) ?_
  replace F_v := F_v.same W4_
  replace E_a := Jvm.RoadKit.Exa.wr W4_ E_a
  replace F_c := F_c.other W4_ (Or.inr (slot_ne (Or.inr (hw _ (List.mem_of_getElem? (i := 28) rfl))) (Or.inr (hw _ (List.mem_of_getElem? (i := 30) rfl))) (by decide) (t := .byte) (t' := (.array .byte)) (by decide) (by decide)))
  replace E_lt := Jvm.RoadKit.Exa.wr W4_ E_lt
  replace Fc_lt := Fc_lt.other W4_ (Or.inl (Ne.symm ne_a_lt))
  replace Fv_lt := Fv_lt.other W4_ (Or.inl (Ne.symm ne_a_lt))
  replace V_lt := V_lt.other W4_ (Ne.symm ne_a_v_lt)
  replace sz := Nat.le_trans sz (Keep.of_wr W4_).1
  replace hk := Nat.le_trans hk (Keep.of_wr W4_).1
  have Sg_a := Safe.wr W4_ Sf_a HR.1 Sf_a
  replace HR := HR.trans (CHr.wr W4_ Sf_a HR.1)
  have Sf_a := Sg_a
  have N4_ := Fr.snoc X4_ N0 g_a
  replace K := K.wr W4_ (Or.inl (List.mem_of_getElem? (i := 0) rfl))
  show Runs p.tables e below _ (T4_.setTop (mkF m 17 #[.val (.ref a), .val (.ref d), .val (.int (0 : Int32)), .val (.int (0 : Int32)), .val .null, .unset] []))
  refine Runs.st (fun t' k' => XS.aloadN X4_.here hx rfl (hb hby d_jdk_42_method_149_17) rfl rfl k') ?_
  refine Runs.st (ldcAgain (s := s) (vm0 := T2_.vm) (X := (show Stand p l e ({ frames := 1, cells := 2, slots := 4, locals := 12 } : Room) (s.setVm T2_.vm) m _ below meth c _ _ _ _ from X4_)) hx hZ hown (hw _ (List.mem_of_getElem? (i := 101) rfl)) Lt_lt (g := (mkF m 18 #[.val (.ref a), .val (.ref d), .val (.int (0 : Int32)), .val (.int (0 : Int32)), .val .null, .unset] [(.ref a)])) rfl (hb hby d_jdk_42_method_149_18)) ?_
  show Runs p.tables e below _ (T4_.setTop (mkF m 20 #[.val (.ref a), .val (.ref d), .val (.int (0 : Int32)), .val (.int (0 : Int32)), .val .null, .unset] [(.ref lt), (.ref a)]))
  obtain ⟨T5_, X5_, e5_, st5_⟩ := getF X4_ hx hZ hown (host := "") (Or.inl (hw _ (List.mem_of_getElem? (i := 27) rfl))) Via.refl e4_ Fc_lt (g := (mkF m 20 #[.val (.ref a), .val (.ref d), .val (.int (0 : Int32)), .val (.int (0 : Int32)), .val .null, .unset] [(.ref lt), (.ref a)])) rfl rfl (hb hby d_jdk_42_method_149_20)
  refine Runs.st (st5_) ?_
  show Runs p.tables e below _ (T5_.setTop (mkF m 23 #[.val (.ref a), .val (.ref d), .val (.int (0 : Int32)), .val (.int (0 : Int32)), .val .null, .unset] [(.int (0 : Int32)), (.ref a)]))
  obtain ⟨T6_, h6_, X6_, e6_, W6_, st6_⟩ := putFN X5_ hx hZ hown (hw _ (List.mem_of_getElem? (i := 27) rfl)) Via.refl e5_ F_c E_a (Or.inr ⟨(hw _ (List.mem_of_getElem? (i := 28) rfl)), rfl, hnm⟩) (hw _ (List.mem_of_getElem? (i := 3) rfl)) (ty := .byte) (v' := .int (0 : Int32)) (by decide) rfl rfl (g := (mkF m 23 #[.val (.ref a), .val (.ref d), .val (.int (0 : Int32)), .val (.int (0 : Int32)), .val .null, .unset] [(.int (0 : Int32)), (.ref a)])) rfl rfl (hb hby d_jdk_42_method_149_23)
  refine Runs.st (st6_) ?_
  replace F_c := F_c.same W6_
  replace E_a := Jvm.RoadKit.Exa.wr W6_ E_a
  replace E_lt := Jvm.RoadKit.Exa.wr W6_ E_lt
  replace Fc_lt := Fc_lt.other W6_ (Or.inl (Ne.symm ne_a_lt))
  replace Fv_lt := Fv_lt.other W6_ (Or.inl (Ne.symm ne_a_lt))
  replace V_lt := V_lt.other W6_ (Ne.symm ne_a_v_lt)
  replace F_v := F_v.other W6_ (Or.inr (slot_ne (Or.inr (hw _ (List.mem_of_getElem? (i := 30) rfl))) (Or.inr (hw _ (List.mem_of_getElem? (i := 28) rfl))) (by decide) (t := (.array .byte)) (t' := .byte) (by decide) (by decide)))
  replace sz := Nat.le_trans sz (Keep.of_wr W6_).1
  replace hk := Nat.le_trans hk (Keep.of_wr W6_).1
  have Sg_a := Safe.wr W6_ Sf_a HR.1 Sf_a
  replace HR := HR.trans (CHr.wr W6_ Sf_a HR.1)
  have Sf_a := Sg_a
  have N6_ := Fr.snoc X6_ N4_ g_a
  replace K := K.wr W6_ (Or.inl (List.mem_of_getElem? (i := 0) rfl))
  show Runs p.tables e below _ (T6_.setTop (mkF m 26 #[.val (.ref a), .val (.ref d), .val (.int (0 : Int32)), .val (.int (0 : Int32)), .val .null, .unset] []))
  refine Runs.retH (s := s) (vm₁ := T2_.vm) X6_ hS (by rw [e6_]; exact hk) hlk (v := none) (fun _ => rfl) (by decide) (by decide) ?_ (by rw [hh, e6_]; exact HR.trans (CHv.at (show Stand p l e ({ frames := 1, cells := 2, slots := 4, locals := 12 } : Room) (s.setVm T2_.vm) m _ below meth c _ _ _ _ from X6_) hZ hEL HR.1)) (fun fs hr => X6_.returnOut hx hret (hb hby d_jdk_42_method_149_26) hr)
  try rw [e6_]
  exact ⟨rfl, N6_, K, E_a, F_c, v_lt, _, F_v, V_lt⟩
def Q_rmIE (Z : State) (a : Addr) (d : Addr) (k1 : ClassId) (h0 : Heap) (n0 : Nat) : Option Value → Heap → List Loc → Prop := (fun v h L => v = none ∧ Fr n0 L ∧ Keep h0 h [a] ∧ Exa Z h a "java/lang/String" ∧ Fld Z h a "java/lang/String" "coder" "B" (.int (0 : Int32)) ∧ ∃ b k2, Fld Z h a "java/lang/String" "value" "[B" (.ref b) ∧ Arv Z h b k2 .byte (0 : Int32) [] (.int (0 : Int32)))
theorem ef_jdk_42_method_3_RR (m : MethodId) (x0 : Addr) (x1 : Addr)  : entryFrame m #[(.ref x0), (.ref x1)] 2 = mkF m 0 #[.val (.ref x0), .val (.ref x1)] [] := by first | (simp [entryFrame, mkF, argsToLocals, Value.category]; done) | rfl
theorem d_jdk_42_method_3_0 : decode jdk_42_method_3_code 0 = .ok (.aload_n 0, 1) := by decide +kernel
theorem d_jdk_42_method_3_1 : decode jdk_42_method_3_code 1 = .ok (.aload_n 1, 1) := by decide +kernel
theorem d_jdk_42_method_3_2 : decode jdk_42_method_3_code 2 = .ok (.iconst 0, 1) := by decide +kernel
theorem d_jdk_42_method_3_3 : decode jdk_42_method_3_code 3 = .ok (.aload_n 1, 1) := by decide +kernel
theorem d_jdk_42_method_3_4 : decode jdk_42_method_3_code 4 = .ok (.arraylength, 1) := by decide +kernel
theorem d_jdk_42_method_3_5 : decode jdk_42_method_3_code 5 = .ok (.aconst_null, 1) := by decide +kernel
theorem pd__28_5bCIILjava_2flang_2fVoid_3b_29V : parseMethodDescriptor "([CIILjava/lang/Void;)V" = some ⟨[(.array .char), .int, .int, (.object "java/lang/Void")], none⟩ := by decide +kernel
theorem d_jdk_42_method_3_6 : decode jdk_42_method_3_code 6 = .ok (.invokespecial 27, 3) := by decide +kernel
theorem d_jdk_42_method_3_9 : decode jdk_42_method_3_code 9 = .ok (.return_, 1) := by decide +kernel
set_option maxRecDepth 65536 in
set_option maxHeartbeats 40000000 in
theorem rmIE (l : Launch) (Z : State) (a0 : Array Value) (hw : ∀ d ∈ tables_1, d.before a0 Z = true) (ws : List Jvm.Cond) (a : Addr) (d : Addr) (k1 : ClassId) (h0 : Heap) (n0 : Nat) (Z0 : n0 ≤ h0.size) (E_a : Exa Z h0 a "java/lang/String") (F_v : Fld Z h0 a "java/lang/String" "value" "[B" .null) (F_c : Fld Z h0 a "java/lang/String" "coder" "B" (.int (0 : Int32))) (g_a : n0 ≤ a) (hEL : EW Z a0 [("java/lang/String", 7)]) (V_d : Arv Z h0 d k1 .char (0 : Int32) [] (.int (0 : Int32))) :
    MetFree l (⟨"java/lang/String", "<init>", "([C)V"⟩ : MethodName) (head1 (Jvm.Cond.code (⟨"java/lang/String", "<init>", "([C)V"⟩ : MethodName) jdk_42_method_3_code 2 none :: ws) ({ frames := 2, cells := 2, slots := 4, locals := 29 } : Room)) (fun ar_ U => ar_ = #[(.ref a), (.ref d)] ∧ Z.Warmed39 U.vm ∧ U.heap = h0 ∧ CHv Z [("java/lang/String", 7)] U.vm h0) (fun _ _ _ _ _ => True) (fun _ U o U' => PhiH Z [("java/lang/String", 7)] U (Q_rmIE Z a d k1 h0 n0) ({ frames := 2, cells := 2, slots := 4, locals := 29 } : Room).cells ({ frames := 2, cells := 2, slots := 4, locals := 29 } : Room).slots o U') := by
  refine MetFree.of_bodySF (plainFor_of_name pn_java_lang_String) hisR ?_
  intro p e s m args below meth c s₁ Bd hml0 hP hK
  obtain ⟨rfl, hZ, hh, HC0⟩ := hP
  have HR := CHr.refl HC0
  have hS : s.Since s.vm h0.size := (State.WarmedH.refl s).since _
  have hk := Nat.le_refl h0.size
  have hZ0 := hZ
  have hx := Bd.exec
  have hby := Bd.bytes
  have hlk := Bd.notSynchronized
  have hml : c.maxLocals = 2 := hml0
  have hown : s.vm.findClass "java/lang/String" = some m.cls := findClass_of_methodNamed Bd.named
  have hown0 := hown
  have hnm := (name_of_methodNamed Bd.named Bd.method).1
  have hret := Bd.returns
  have X0 : Stand p l e ({ frames := 2, cells := 2, slots := 4, locals := 29 } : Room) s m #[(.ref a), (.ref d)] below meth c s₁ [] 0 0 := Stand.of_body Bd
  have e0 : s₁.heap = h0 := by rw [← hh, Bd.state]; rfl
  have N0 := Fr.nil n0
  have sz := Z0
  have K := Keep.refl h0 [a]
  show Runs p.tables e below (PhiH Z [("java/lang/String", 7)] s (Q_rmIE Z a d k1 h0 n0) ({ frames := 2, cells := 2, slots := 4, locals := 29 } : Room).cells ({ frames := 2, cells := 2, slots := 4, locals := 29 } : Room).slots) _
  refine Runs.st (fun t' k' => castTop (ef_jdk_42_method_3_RR m a d ) k') ?_
  show Runs p.tables e below _ (s₁.setTop (mkF m 0 #[.val (.ref a), .val (.ref d)] []))
  refine Runs.st (fun t' k' => XS.aloadN X0.here hx rfl (hb hby d_jdk_42_method_3_0) rfl rfl k') ?_
  refine Runs.st (fun t' k' => XS.aloadN X0.here hx rfl (hb hby d_jdk_42_method_3_1) rfl rfl k') ?_
  refine Runs.st (fun t' k' => XS.iconst X0.here hx rfl (hb hby d_jdk_42_method_3_2) k') ?_
  refine Runs.st (fun t' k' => XS.aloadN X0.here hx rfl (hb hby d_jdk_42_method_3_3) rfl rfl k') ?_
  obtain ⟨cl1_, Ar1_, -, S1_, M1_, -, -⟩ := id V_d
  refine Runs.st (X0.arraylength hx (by rw [e0]; exact Ar1_.1) (State.isArrayOf_alike hZ.alike Ar1_.2.1) (g := (mkF m 4 #[.val (.ref a), .val (.ref d)] [(.ref d), (.int (0 : Int32)), (.ref d), (.ref a)])) rfl rfl (hb hby d_jdk_42_method_3_4)) ?_
  rw [len_of S1_ M1_]
  show Runs p.tables e below _ (s₁.setTop (mkF m 5 #[.val (.ref a), .val (.ref d)] [(.int (0 : Int32)), (.int (0 : Int32)), (.ref d), (.ref a)]))
  refine Runs.st (fun t' k' => XS.aconstNull X0.here hx rfl (hb hby d_jdk_42_method_3_5) k') ?_
  obtain ⟨_, _, ⟨T2_, L2_, k2_, n2_⟩, -, X2_, hS2_, hg2_, ⟨Lc2_, hQ2_, l2_, y2_, z2_, HR2_⟩, st2_⟩ := (show Stand p l e ({ frames := 2, cells := 2, slots := 4, locals := 29 } : Room) (s.setVm s.vm) m _ below meth c _ _ _ _ from X0).specialBackS hx (y := (⟨"java/lang/String", "<init>", "([CIILjava/lang/Void;)V"⟩ : MethodName)) rfl hown (mvT hZ (hw _ (List.mem_of_getElem? (i := 8) rfl))) (mvT hZ (hw _ (List.mem_of_getElem? (i := 9) rfl))) (mvT hZ (hw _ (List.mem_of_getElem? (i := 11) rfl))) (by decide) (backOfSH (W := 0) (rmIE0 l Z a0 hw [] a d h0 n0 sz E_a F_v F_c g_a hEL) hZ (hw _ (List.mem_of_getElem? (i := 11) rfl)) (hw _ (List.mem_of_getElem? (i := 4) rfl)) (by decide) (by decide) hEL HR.1) (g := (mkF m 6 #[.val (.ref a), .val (.ref d)] [.null, (.int (0 : Int32)), (.int (0 : Int32)), (.ref d), (.ref a)])) rfl (by rw [hml]; rfl) (Steps.refl _) (a := a) (argsL := [(.ref d), (.int (0 : Int32)), (.int (0 : Int32)), .null]) (rest := []) (lenOf pd__28_5bCIILjava_2flang_2fVoid_3b_29V rfl) rfl (by show 2 * 0 + _ ≤ _; exact Nat.le_of_eq rfl) (hb hby d_jdk_42_method_3_6) (fun _ _ => ⟨rfl, e0, (by decide : 0 + 2 ≤ _), (by decide : 0 + 4 ≤ _)⟩)
  dsimp only [Pt.U] at hS2_ hg2_
  dsimp only [Pt.U] at HR2_
  replace HR := HR.trans HR2_
  dsimp only [Pt.U, Pt.locs, Pt.cells, Pt.slots] at X2_ l2_ y2_ z2_ st2_ hQ2_
  subst l2_ y2_ z2_
  obtain ⟨rfl, N2_q, K2_, E_a, F_c, b, k2, F_v, V_b⟩ := hQ2_
  have N2_ := Fr.app N0 N2_q
  replace hS := foldS (vm0 := s.vm) (T := s₁) hS (by rw [e0]; exact hk) hS2_ hg2_
  have hk := Nat.le_refl T2_.heap.size
  replace hZ : Z.Warmed39 (s.setVm T2_.vm).vm := State.Warmed39.trans (t := s) hZ0 hS.1
  replace hown : (s.setVm T2_.vm).vm.findClass "java/lang/String" = some m.cls := by rw [show (s.setVm T2_.vm).vm = T2_.vm from rfl, hS.1.alike.findClass]; exact hown0
  refine Runs.tr st2_ ?_
  replace X2_ := wider X2_ (c' := 2) (s' := 4) (by decide) (by decide)
  replace sz := Nat.le_trans sz K2_.1
  replace K := K.trans K2_ (allS (Or.inl (List.mem_of_getElem? (i := 0) rfl)) all0)
  show Runs p.tables e below _ (T2_.setTop (mkF m 9 #[.val (.ref a), .val (.ref d)] []))
  refine Runs.retH (s := s) (vm₁ := T2_.vm) X2_ hS hk hlk (v := none) (fun _ => rfl) (by decide) (by decide) ?_ (by rw [hh]; exact HR.trans (CHv.at (show Stand p l e ({ frames := 2, cells := 2, slots := 4, locals := 29 } : Room) (s.setVm T2_.vm) m _ below meth c _ _ _ _ from X2_) hZ hEL HR.1)) (fun fs hr => X2_.returnOut hx hret (hb hby d_jdk_42_method_3_9) hr)
  exact ⟨rfl, N2_, K, E_a, F_c, b, k2, F_v, V_b⟩
def Q_rmCod (Z : State) (a : Addr) (zc : Int32) (h0 : Heap) (n0 : Nat) : Option Value → Heap → List Loc → Prop := (fun v h L => v = some (.int (0 : Int32)) ∧ Fr n0 L ∧ h = h0)
theorem ef_jdk_42_method_152_R (m : MethodId) (x0 : Addr)  : entryFrame m #[(.ref x0)] 1 = mkF m 0 #[.val (.ref x0)] [] := by first | (simp [entryFrame, mkF, argsToLocals, Value.category]; done) | rfl
theorem d_jdk_42_method_152_0 : decode jdk_42_method_152_code 0 = .ok (.getstatic 38, 3) := by decide +kernel
theorem d_jdk_42_method_152_3 : decode jdk_42_method_152_code 3 = .ok (.ifCond .eq 10, 3) := by decide +kernel
theorem d_jdk_42_method_152_6 : decode jdk_42_method_152_code 6 = .ok (.aload_n 0, 1) := by decide +kernel
theorem d_jdk_42_method_152_7 : decode jdk_42_method_152_code 7 = .ok (.getfield 15, 3) := by decide +kernel
theorem d_jdk_42_method_152_10 : decode jdk_42_method_152_code 10 = .ok (.goto 4, 3) := by decide +kernel
theorem d_jdk_42_method_152_14 : decode jdk_42_method_152_code 14 = .ok (.ireturn, 1) := by decide +kernel
set_option maxRecDepth 65536 in
set_option maxHeartbeats 40000000 in
theorem rmCod (l : Launch) (Z : State) (a0 : Array Value) (hw : ∀ d ∈ tables_1, d.before a0 Z = true) (ws : List Jvm.Cond) (a : Addr) (zc : Int32) (h0 : Heap) (n0 : Nat) (Z0 : n0 ≤ h0.size) (Sc : Sta Z h0 "java/lang/String" "COMPACT_STRINGS" "Z" (.int zc)) (hzc : ¬ zc = 0) (Fc : Fld Z h0 a "java/lang/String" "coder" "B" (.int (0 : Int32))) :
    MetFree l (⟨"java/lang/String", "coder", "()B"⟩ : MethodName) (head1 (Jvm.Cond.code (⟨"java/lang/String", "coder", "()B"⟩ : MethodName) jdk_42_method_152_code 1 (some .byte) :: ws) ({ frames := 0, cells := 0, slots := 0, locals := 0 } : Room)) (fun ar_ U => ar_ = #[(.ref a)] ∧ Z.Warmed39 U.vm ∧ U.heap = h0) (fun _ _ _ _ _ => True) (fun _ U o U' => Phi U (Q_rmCod Z a zc h0 n0) ({ frames := 0, cells := 0, slots := 0, locals := 0 } : Room).cells ({ frames := 0, cells := 0, slots := 0, locals := 0 } : Room).slots o U') := by
  refine MetFree.of_bodySF (plainFor_of_name pn_java_lang_String) hisR ?_
  intro p e s m args below meth c s₁ Bd hml0 hP hK
  obtain ⟨rfl, hZ, hh⟩ := hP
  have hx := Bd.exec
  have hby := Bd.bytes
  have hlk := Bd.notSynchronized
  have hml : c.maxLocals = 1 := hml0
  have hown : s.vm.findClass "java/lang/String" = some m.cls := findClass_of_methodNamed Bd.named
  have hown0 := hown
  have hnm := (name_of_methodNamed Bd.named Bd.method).1
  have hret := Bd.returns
  have X0 : Stand p l e ({ frames := 0, cells := 0, slots := 0, locals := 0 } : Room) s m #[(.ref a)] below meth c s₁ [] 0 0 := Stand.of_body Bd
  have e0 : s₁.heap = h0 := by rw [← hh, Bd.state]; rfl
  have N0 := Fr.nil n0
  have sz := Z0
  have K := Keep.refl h0 []
  show Runs p.tables e below (Phi s (Q_rmCod Z a zc h0 n0) ({ frames := 0, cells := 0, slots := 0, locals := 0 } : Room).cells ({ frames := 0, cells := 0, slots := 0, locals := 0 } : Room).slots) _
  refine Runs.st (fun t' k' => castTop (ef_jdk_42_method_152_R m a ) k') ?_
  show Runs p.tables e below _ (s₁.setTop (mkF m 0 #[.val (.ref a)] []))
  obtain ⟨T1_, X1_, e1_, st1_⟩ := getS2 X0 hx hZ hown (host := "") (Or.inl (hw _ (List.mem_of_getElem? (i := 15) rfl))) Via.refl e0 Sc (g := (mkF m 0 #[.val (.ref a)] [])) rfl (hb hby d_jdk_42_method_152_0)
  refine Runs.st (st1_) ?_
  show Runs p.tables e below _ (T1_.setTop (mkF m 3 #[.val (.ref a)] [(.int zc)]))
  refine Runs.st (fun t' k' => XS.ifNo X1_.here hx rfl (hb hby d_jdk_42_method_152_3) rfl ((if0 _ _).trans (feq hzc).1) k') ?_
  show Runs p.tables e below _ (T1_.setTop (mkF m 6 #[.val (.ref a)] []))
  refine Runs.st (fun t' k' => XS.aloadN X1_.here hx rfl (hb hby d_jdk_42_method_152_6) rfl rfl k') ?_
  obtain ⟨T2_, X2_, e2_, st2_⟩ := getF X1_ hx hZ hown (host := "") (Or.inl (hw _ (List.mem_of_getElem? (i := 27) rfl))) Via.refl e1_ Fc (g := (mkF m 7 #[.val (.ref a)] [(.ref a)])) rfl rfl (hb hby d_jdk_42_method_152_7)
  refine Runs.st (st2_) ?_
  show Runs p.tables e below _ (T2_.setTop (mkF m 10 #[.val (.ref a)] [(.int (0 : Int32))]))
  refine Runs.st (fun t' k' => XS.goto X2_.here hx rfl (pc0 := 10) (pc' := 14) rfl (hb hby d_jdk_42_method_152_10) (by decide) (by decide) k') ?_
  refine Runs.ret X2_ hlk (v := (some (.int (0 : Int32)))) (fun h => by rw [hret] at h; cases h) (by decide) (by decide) ?_ (fun fs hr => retN X2_ hx (t := .byte) hret (by simp) (hb hby d_jdk_42_method_152_14) hr)
  try rw [e2_]
  exact ⟨rfl, N0, rfl⟩
def Q_rmLen (Z : State) (a : Addr) (zc : Int32) (b : Addr) (n : Int32) (k : ClassId) (vs : List Value) (r : Int32) (h0 : Heap) (n0 : Nat) : Option Value → Heap → List Loc → Prop := (fun v h L => v = some (.int r) ∧ Fr n0 L ∧ h = h0)
theorem ef_jdk_42_method_54_R (m : MethodId) (x0 : Addr)  : entryFrame m #[(.ref x0)] 1 = mkF m 0 #[.val (.ref x0)] [] := by first | (simp [entryFrame, mkF, argsToLocals, Value.category]; done) | rfl
theorem d_jdk_42_method_54_0 : decode jdk_42_method_54_code 0 = .ok (.aload_n 0, 1) := by decide +kernel
theorem d_jdk_42_method_54_1 : decode jdk_42_method_54_code 1 = .ok (.getfield 9, 3) := by decide +kernel
theorem d_jdk_42_method_54_4 : decode jdk_42_method_54_code 4 = .ok (.arraylength, 1) := by decide +kernel
theorem d_jdk_42_method_54_5 : decode jdk_42_method_54_code 5 = .ok (.aload_n 0, 1) := by decide +kernel
theorem pd__28_29B : parseMethodDescriptor "()B" = some ⟨[], some .byte⟩ := by decide +kernel
theorem d_jdk_42_method_54_6 : decode jdk_42_method_54_code 6 = .ok (.invokevirtual 335, 3) := by decide +kernel
theorem d_jdk_42_method_54_9 : decode jdk_42_method_54_code 9 = .ok (.ishr, 1) := by decide +kernel
theorem d_jdk_42_method_54_10 : decode jdk_42_method_54_code 10 = .ok (.ireturn, 1) := by decide +kernel
set_option maxRecDepth 65536 in
set_option maxHeartbeats 40000000 in
theorem rmLen (l : Launch) (Z : State) (a0 : Array Value) (hw : ∀ d ∈ tables_1, d.before a0 Z = true) (ws : List Jvm.Cond) (a : Addr) (zc : Int32) (b : Addr) (n : Int32) (k : ClassId) (vs : List Value) (r : Int32) (h0 : Heap) (n0 : Nat) (Z0 : n0 ≤ h0.size) (E_a : Exa Z h0 a "java/lang/String") (Sc : Sta Z h0 "java/lang/String" "COMPACT_STRINGS" "Z" (.int zc)) (hzc : ¬ zc = 0) (Fc : Fld Z h0 a "java/lang/String" "coder" "B" (.int (0 : Int32))) (Fv : Fld Z h0 a "java/lang/String" "value" "[B" (.ref b)) (Vb : Arv Z h0 b k .byte n vs (.int (0 : Int32))) (hr_ : r = n >>> ((0 : Int32) &&& 31)) :
    MetFree l (⟨"java/lang/String", "length", "()I"⟩ : MethodName) (head1 (Jvm.Cond.code (⟨"java/lang/String", "length", "()I"⟩ : MethodName) jdk_42_method_54_code 1 (some .int) :: ws) ({ frames := 1, cells := 0, slots := 0, locals := 13 } : Room)) (fun ar_ U => ar_ = #[(.ref a)] ∧ Z.Warmed39 U.vm ∧ U.heap = h0) (fun _ _ _ _ _ => True) (fun _ U o U' => Phi U (Q_rmLen Z a zc b n k vs r h0 n0) ({ frames := 1, cells := 0, slots := 0, locals := 13 } : Room).cells ({ frames := 1, cells := 0, slots := 0, locals := 13 } : Room).slots o U') := by
  refine MetFree.of_bodySF (plainFor_of_name pn_java_lang_String) hisR ?_
  intro p e s m args below meth c s₁ Bd hml0 hP hK
  obtain ⟨rfl, hZ, hh⟩ := hP
  have hx := Bd.exec
  have hby := Bd.bytes
  have hlk := Bd.notSynchronized
  have hml : c.maxLocals = 1 := hml0
  have hown : s.vm.findClass "java/lang/String" = some m.cls := findClass_of_methodNamed Bd.named
  have hown0 := hown
  have hnm := (name_of_methodNamed Bd.named Bd.method).1
  have hret := Bd.returns
  have X0 : Stand p l e ({ frames := 1, cells := 0, slots := 0, locals := 13 } : Room) s m #[(.ref a)] below meth c s₁ [] 0 0 := Stand.of_body Bd
  have e0 : s₁.heap = h0 := by rw [← hh, Bd.state]; rfl
  have N0 := Fr.nil n0
  have sz := Z0
  have K := Keep.refl h0 []
  show Runs p.tables e below (Phi s (Q_rmLen Z a zc b n k vs r h0 n0) ({ frames := 1, cells := 0, slots := 0, locals := 13 } : Room).cells ({ frames := 1, cells := 0, slots := 0, locals := 13 } : Room).slots) _
  refine Runs.st (fun t' k' => castTop (ef_jdk_42_method_54_R m a ) k') ?_
  show Runs p.tables e below _ (s₁.setTop (mkF m 0 #[.val (.ref a)] []))
  refine Runs.st (fun t' k' => XS.aloadN X0.here hx rfl (hb hby d_jdk_42_method_54_0) rfl rfl k') ?_
  obtain ⟨T1_, X1_, e1_, st1_⟩ := getF X0 hx hZ hown (host := "") (Or.inl (hw _ (List.mem_of_getElem? (i := 29) rfl))) Via.refl e0 Fv (g := (mkF m 1 #[.val (.ref a)] [(.ref a)])) rfl rfl (hb hby d_jdk_42_method_54_1)
  refine Runs.st (st1_) ?_
  show Runs p.tables e below _ (T1_.setTop (mkF m 4 #[.val (.ref a)] [(.ref b)]))
  obtain ⟨cl2_, Ar2_, -, S2_, M2_, -, -⟩ := id Vb
  refine Runs.st (X1_.arraylength hx (by rw [e1_]; exact Ar2_.1) (State.isArrayOf_alike hZ.alike Ar2_.2.1) (g := (mkF m 4 #[.val (.ref a)] [(.ref b)])) rfl rfl (hb hby d_jdk_42_method_54_4)) ?_
  rw [len_of S2_ M2_]
  show Runs p.tables e below _ (T1_.setTop (mkF m 5 #[.val (.ref a)] [(.int n)]))
  refine Runs.st (fun t' k' => XS.aloadN X1_.here hx rfl (hb hby d_jdk_42_method_54_5) rfl rfl k') ?_
  obtain ⟨cq3_, kq3_, q3_a, q3_b, q3_c⟩ := isOf hZ e1_ E_a
  obtain ⟨_, _, ⟨T3_, L3_, k3_, n3_⟩, -, X3_, ⟨Lc3_, hQ3_, l3_, y3_, z3_⟩, st3_⟩ := X1_.virtualBack hx (y := (⟨"java/lang/String", "coder", "()B"⟩ : MethodName)) (z := (⟨"java/lang/String", "coder", "()B"⟩ : MethodName)) hown (mvT hZ (hw _ (List.mem_of_getElem? (i := 36) rfl))) (mvT hZ (hw _ (List.mem_of_getElem? (i := 37) rfl))) (notFace_of_selects (args := #[]) (mvT hZ (hw _ (List.mem_of_getElem? (i := 39) rfl)))) (mvT hZ (hw _ (List.mem_of_getElem? (i := 39) rfl))) (mvT hZ (hw _ (List.mem_of_getElem? (i := 38) rfl))) (by decide) (backOf (W := 1) (rmCod l Z a0 hw [] a zc h0 n0 sz Sc hzc Fc) hZ (hw _ (List.mem_of_getElem? (i := 40) rfl)) (hw _ (List.mem_of_getElem? (i := 4) rfl)) (by decide) (by decide)) q3_a q3_c (g := (mkF m 6 #[.val (.ref a)] [(.ref a), (.int n)])) rfl (by rw [hml]; rfl) (Steps.refl _) (argsL := []) (rest := [(.int n)]) (lenOf pd__28_29B rfl) rfl (by show 2 * 0 + _ ≤ _; exact Nat.le_of_eq rfl) (hb hby d_jdk_42_method_54_6) (fun _ _ => ⟨rfl, e1_, (by decide : 0 + 0 ≤ _), (by decide : 0 + 0 ≤ _)⟩)
  dsimp only [Pt.U, Pt.locs, Pt.cells, Pt.slots] at X3_ l3_ y3_ z3_ st3_ hQ3_
  subst l3_ y3_ z3_
  obtain ⟨rfl, N3_q, e3_⟩ := hQ3_
  have N3_ := Fr.app N0 N3_q
  refine Runs.tr st3_ ?_
  replace X3_ := wider X3_ (c' := 0) (s' := 0) (by decide) (by decide)
  show Runs p.tables e below _ (T3_.setTop (mkF m 9 #[.val (.ref a)] [(.int (0 : Int32)), (.int n)]))
  refine Runs.st (fun t' k' => XS.ishr X3_.here hx rfl (hb hby d_jdk_42_method_54_9) rfl k') ?_
  refine Runs.ret X3_ hlk (v := (some (.int (n >>> ((0 : Int32) &&& 31))))) (fun h => by rw [hret] at h; cases h) (by decide) (by decide) ?_ (fun fs hr => retI X3_ hx hret (hb hby d_jdk_42_method_54_10) hr)
  try rw [e3_]
  exact ⟨congrArg (fun z => some (Value.int z)) hr_.symm, N3_, rfl⟩
theorem own_nar2 (x : Int32) : nar .char (nar .char x) = nar .char x := by
  simp only [nar]
  apply Int32.toInt_inj.mp
  have a := c_i2c x
  have b := c_i2c (x.toUInt32.toUInt16.toUInt32.toInt32)
  omega
def Q_rmLat (Z : State) (a : Addr) (zc : Int32) (h0 : Heap) (n0 : Nat) : Option Value → Heap → List Loc → Prop := (fun v h L => v = some (.int 1) ∧ Fr n0 L ∧ h = h0)
theorem ef_jdk_42_method_154_R (m : MethodId) (x0 : Addr)  : entryFrame m #[(.ref x0)] 1 = mkF m 0 #[.val (.ref x0)] [] := by first | (simp [entryFrame, mkF, argsToLocals, Value.category]; done) | rfl
theorem d_jdk_42_method_154_0 : decode jdk_42_method_154_code 0 = .ok (.getstatic 38, 3) := by decide +kernel
theorem d_jdk_42_method_154_3 : decode jdk_42_method_154_code 3 = .ok (.ifCond .eq 14, 3) := by decide +kernel
theorem d_jdk_42_method_154_6 : decode jdk_42_method_154_code 6 = .ok (.aload_n 0, 1) := by decide +kernel
theorem d_jdk_42_method_154_7 : decode jdk_42_method_154_code 7 = .ok (.getfield 15, 3) := by decide +kernel
theorem d_jdk_42_method_154_10 : decode jdk_42_method_154_code 10 = .ok (.ifCond .ne 7, 3) := by decide +kernel
theorem d_jdk_42_method_154_13 : decode jdk_42_method_154_code 13 = .ok (.iconst 1, 1) := by decide +kernel
theorem d_jdk_42_method_154_14 : decode jdk_42_method_154_code 14 = .ok (.goto 4, 3) := by decide +kernel
theorem d_jdk_42_method_154_18 : decode jdk_42_method_154_code 18 = .ok (.ireturn, 1) := by decide +kernel
set_option maxRecDepth 65536 in
set_option maxHeartbeats 40000000 in
theorem rmLat (l : Launch) (Z : State) (a0 : Array Value) (hw : ∀ d ∈ tables_1, d.before a0 Z = true) (ws : List Jvm.Cond) (a : Addr) (zc : Int32) (h0 : Heap) (n0 : Nat) (Z0 : n0 ≤ h0.size) (Sc : Sta Z h0 "java/lang/String" "COMPACT_STRINGS" "Z" (.int zc)) (hzc : ¬ zc = 0) (Fc : Fld Z h0 a "java/lang/String" "coder" "B" (.int (0 : Int32))) :
    MetFree l (⟨"java/lang/String", "isLatin1", "()Z"⟩ : MethodName) (head1 (Jvm.Cond.code (⟨"java/lang/String", "isLatin1", "()Z"⟩ : MethodName) jdk_42_method_154_code 1 (some .boolean) :: ws) ({ frames := 0, cells := 0, slots := 0, locals := 0 } : Room)) (fun ar_ U => ar_ = #[(.ref a)] ∧ Z.Warmed39 U.vm ∧ U.heap = h0) (fun _ _ _ _ _ => True) (fun _ U o U' => Phi U (Q_rmLat Z a zc h0 n0) ({ frames := 0, cells := 0, slots := 0, locals := 0 } : Room).cells ({ frames := 0, cells := 0, slots := 0, locals := 0 } : Room).slots o U') := by
  refine MetFree.of_bodySF (plainFor_of_name pn_java_lang_String) hisR ?_
  intro p e s m args below meth c s₁ Bd hml0 hP hK
  obtain ⟨rfl, hZ, hh⟩ := hP
  have hx := Bd.exec
  have hby := Bd.bytes
  have hlk := Bd.notSynchronized
  have hml : c.maxLocals = 1 := hml0
  have hown : s.vm.findClass "java/lang/String" = some m.cls := findClass_of_methodNamed Bd.named
  have hown0 := hown
  have hnm := (name_of_methodNamed Bd.named Bd.method).1
  have hret := Bd.returns
  have X0 : Stand p l e ({ frames := 0, cells := 0, slots := 0, locals := 0 } : Room) s m #[(.ref a)] below meth c s₁ [] 0 0 := Stand.of_body Bd
  have e0 : s₁.heap = h0 := by rw [← hh, Bd.state]; rfl
  have N0 := Fr.nil n0
  have sz := Z0
  have K := Keep.refl h0 []
  show Runs p.tables e below (Phi s (Q_rmLat Z a zc h0 n0) ({ frames := 0, cells := 0, slots := 0, locals := 0 } : Room).cells ({ frames := 0, cells := 0, slots := 0, locals := 0 } : Room).slots) _
  refine Runs.st (fun t' k' => castTop (ef_jdk_42_method_154_R m a ) k') ?_
  show Runs p.tables e below _ (s₁.setTop (mkF m 0 #[.val (.ref a)] []))
  obtain ⟨T1_, X1_, e1_, st1_⟩ := getS2 X0 hx hZ hown (host := "") (Or.inl (hw _ (List.mem_of_getElem? (i := 15) rfl))) Via.refl e0 Sc (g := (mkF m 0 #[.val (.ref a)] [])) rfl (hb hby d_jdk_42_method_154_0)
  refine Runs.st (st1_) ?_
  show Runs p.tables e below _ (T1_.setTop (mkF m 3 #[.val (.ref a)] [(.int zc)]))
  refine Runs.st (fun t' k' => XS.ifNo X1_.here hx rfl (hb hby d_jdk_42_method_154_3) rfl ((if0 _ _).trans (feq hzc).1) k') ?_
  show Runs p.tables e below _ (T1_.setTop (mkF m 6 #[.val (.ref a)] []))
  refine Runs.st (fun t' k' => XS.aloadN X1_.here hx rfl (hb hby d_jdk_42_method_154_6) rfl rfl k') ?_
  obtain ⟨T2_, X2_, e2_, st2_⟩ := getF X1_ hx hZ hown (host := "") (Or.inl (hw _ (List.mem_of_getElem? (i := 27) rfl))) Via.refl e1_ Fc (g := (mkF m 7 #[.val (.ref a)] [(.ref a)])) rfl rfl (hb hby d_jdk_42_method_154_7)
  refine Runs.st (st2_) ?_
  show Runs p.tables e below _ (T2_.setTop (mkF m 10 #[.val (.ref a)] [(.int (0 : Int32))]))
  refine Runs.st (fun t' k' => XS.ifNo X2_.here hx rfl (hb hby d_jdk_42_method_154_10) rfl ((if0 _ _).trans (teq rfl).2) k') ?_
  show Runs p.tables e below _ (T2_.setTop (mkF m 13 #[.val (.ref a)] []))
  refine Runs.st (fun t' k' => XS.iconst X2_.here hx rfl (hb hby d_jdk_42_method_154_13) k') ?_
  refine Runs.st (fun t' k' => XS.goto X2_.here hx rfl (pc0 := 14) (pc' := 18) rfl (hb hby d_jdk_42_method_154_14) (by decide) (by decide) k') ?_
  refine Runs.ret X2_ hlk (v := (some (.int (1 : Int32)))) (fun h => by rw [hret] at h; cases h) (by decide) (by decide) ?_ (fun fs hr => retN X2_ hx (t := .boolean) hret (by simp) (hb hby d_jdk_42_method_154_18) hr)
  try rw [e2_]
  exact ⟨rfl, N0, rfl⟩
def Q_rmPre (Z : State) (i : Int32) (n : Int32) (f : Value)  (h0 : Heap) (n0 : Nat) : Option Value → Heap → List Loc → Prop := (fun v h L => v = some (.int i) ∧ Fr n0 L ∧ h = h0)
theorem pn_jdk_internal_util_Preconditions : plainName "jdk/internal/util/Preconditions" = true := by first | (simp [plainName, overriddenIn]; done) | decide +kernel
theorem ef_jdk_41_method_11_IIV (m : MethodId) (x0 : Int32) (x1 : Int32) (x2 : Value) (hv2 : x2.isRef = true) : entryFrame m #[(.int x0), (.int x1), x2] 3 = mkF m 0 #[.val (.int x0), .val (.int x1), .val x2] [] := by rcases ref_cases hv2 with rfl | ⟨_, rfl⟩ <;> first | (simp [entryFrame, mkF, argsToLocals, Value.category]; done) | rfl
theorem d_jdk_41_method_11_0 : decode jdk_41_method_11_code 0 = .ok (.iload_n 0, 1) := by decide +kernel
theorem d_jdk_41_method_11_1 : decode jdk_41_method_11_code 1 = .ok (.ifCond .lt 8, 3) := by decide +kernel
theorem d_jdk_41_method_11_4 : decode jdk_41_method_11_code 4 = .ok (.iload_n 0, 1) := by decide +kernel
theorem d_jdk_41_method_11_5 : decode jdk_41_method_11_code 5 = .ok (.iload_n 1, 1) := by decide +kernel
theorem d_jdk_41_method_11_6 : decode jdk_41_method_11_code 6 = .ok (.if_icmp .lt 10, 3) := by decide +kernel
theorem d_jdk_41_method_11_16 : decode jdk_41_method_11_code 16 = .ok (.iload_n 0, 1) := by decide +kernel
theorem d_jdk_41_method_11_17 : decode jdk_41_method_11_code 17 = .ok (.ireturn, 1) := by decide +kernel
set_option maxRecDepth 65536 in
set_option maxHeartbeats 40000000 in
theorem rmPre (l : Launch) (Z : State) (a0 : Array Value) (hw : ∀ d ∈ tables_1, d.before a0 Z = true) (ws : List Jvm.Cond) (i : Int32) (n : Int32) (f : Value)  (h0 : Heap) (n0 : Nat) (Z0 : n0 ≤ h0.size) (hf : f.isRef = true) (h1 : ¬ i < 0) (h2 : i < n) :
    MetFree l (⟨"jdk/internal/util/Preconditions", "checkIndex", "(IILjava/util/function/BiFunction;)I"⟩ : MethodName) (head1 (Jvm.Cond.code (⟨"jdk/internal/util/Preconditions", "checkIndex", "(IILjava/util/function/BiFunction;)I"⟩ : MethodName) jdk_41_method_11_code 3 (some .int) :: ws) ({ frames := 0, cells := 0, slots := 0, locals := 0 } : Room)) (fun ar_ U => ar_ = #[(.int i), (.int n), f] ∧ Z.Warmed39 U.vm ∧ U.heap = h0) (fun _ _ _ _ _ => True) (fun _ U o U' => Phi U (Q_rmPre Z i n f h0 n0) ({ frames := 0, cells := 0, slots := 0, locals := 0 } : Room).cells ({ frames := 0, cells := 0, slots := 0, locals := 0 } : Room).slots o U') := by
  refine MetFree.of_bodySF (plainFor_of_name pn_jdk_internal_util_Preconditions) hisR ?_
  intro p e s m args below meth c s₁ Bd hml0 hP hK
  obtain ⟨rfl, hZ, hh⟩ := hP
  have hx := Bd.exec
  have hby := Bd.bytes
  have hlk := Bd.notSynchronized
  have hml : c.maxLocals = 3 := hml0
  have hown : s.vm.findClass "jdk/internal/util/Preconditions" = some m.cls := findClass_of_methodNamed Bd.named
  have hown0 := hown
  have hnm := (name_of_methodNamed Bd.named Bd.method).1
  have hret := Bd.returns
  have X0 : Stand p l e ({ frames := 0, cells := 0, slots := 0, locals := 0 } : Room) s m #[(.int i), (.int n), f] below meth c s₁ [] 0 0 := Stand.of_body Bd
  have e0 : s₁.heap = h0 := by rw [← hh, Bd.state]; rfl
  have N0 := Fr.nil n0
  have sz := Z0
  have K := Keep.refl h0 []
  show Runs p.tables e below (Phi s (Q_rmPre Z i n f h0 n0) ({ frames := 0, cells := 0, slots := 0, locals := 0 } : Room).cells ({ frames := 0, cells := 0, slots := 0, locals := 0 } : Room).slots) _
  refine Runs.st (fun t' k' => castTop (ef_jdk_41_method_11_IIV m i n f (by first | assumption | rfl)) k') ?_
  show Runs p.tables e below _ (s₁.setTop (mkF m 0 #[.val (.int i), .val (.int n), .val f] []))
  refine Runs.st (fun t' k' => XS.iloadN X0.here hx rfl (hb hby d_jdk_41_method_11_0) rfl k') ?_
  refine Runs.st (fun t' k' => XS.ifNo X0.here hx rfl (hb hby d_jdk_41_method_11_1) rfl ((if0 _ _).trans (flt h1).1) k') ?_
  show Runs p.tables e below _ (s₁.setTop (mkF m 4 #[.val (.int i), .val (.int n), .val f] []))
  refine Runs.st (fun t' k' => XS.iloadN X0.here hx rfl (hb hby d_jdk_41_method_11_4) rfl k') ?_
  refine Runs.st (fun t' k' => XS.iloadN X0.here hx rfl (hb hby d_jdk_41_method_11_5) rfl k') ?_
  refine Runs.st (fun t' k' => XS.icmpYes X0.here hx rfl (pc0 := 6) (pc' := 16) rfl (hb hby d_jdk_41_method_11_6) rfl (tlt h2).1 (by decide) (by decide) k') ?_
  show Runs p.tables e below _ (s₁.setTop (mkF m 16 #[.val (.int i), .val (.int n), .val f] []))
  refine Runs.st (fun t' k' => XS.iloadN X0.here hx rfl (hb hby d_jdk_41_method_11_16) rfl k') ?_
  refine Runs.ret X0 hlk (v := (some (.int i))) (fun h => by rw [hret] at h; cases h) (by decide) (by decide) ?_ (fun fs hr => retI X0 hx hret (hb hby d_jdk_41_method_11_17) hr)
  try rw [e0]
  exact ⟨rfl, N0, rfl⟩
def Q_rmChk (Z : State) (i : Int32) (n : Int32) (f : Value) (h0 : Heap) (n0 : Nat) : Option Value → Heap → List Loc → Prop := (fun v h L => v = none ∧ Fr n0 L ∧ h = h0)
theorem ef_jdk_42_method_155_II (m : MethodId) (x0 : Int32) (x1 : Int32)  : entryFrame m #[(.int x0), (.int x1)] 2 = mkF m 0 #[.val (.int x0), .val (.int x1)] [] := by first | (simp [entryFrame, mkF, argsToLocals, Value.category]; done) | rfl
theorem d_jdk_42_method_155_0 : decode jdk_42_method_155_code 0 = .ok (.iload_n 0, 1) := by decide +kernel
theorem d_jdk_42_method_155_1 : decode jdk_42_method_155_code 1 = .ok (.iload_n 1, 1) := by decide +kernel
theorem d_jdk_42_method_155_2 : decode jdk_42_method_155_code 2 = .ok (.getstatic 1053, 3) := by decide +kernel
theorem pd__28IILjava_2futil_2ffunction_2fBiFunction_3b_29I : parseMethodDescriptor "(IILjava/util/function/BiFunction;)I" = some ⟨[.int, .int, (.object "java/util/function/BiFunction")], some .int⟩ := by decide +kernel
theorem d_jdk_42_method_155_5 : decode jdk_42_method_155_code 5 = .ok (.invokestatic 1059, 3) := by decide +kernel
theorem d_jdk_42_method_155_8 : decode jdk_42_method_155_code 8 = .ok (.pop, 1) := by decide +kernel
theorem d_jdk_42_method_155_9 : decode jdk_42_method_155_code 9 = .ok (.return_, 1) := by decide +kernel
set_option maxRecDepth 65536 in
set_option maxHeartbeats 40000000 in
theorem rmChk (l : Launch) (Z : State) (a0 : Array Value) (hw : ∀ d ∈ tables_1, d.before a0 Z = true) (ws : List Jvm.Cond) (i : Int32) (n : Int32) (f : Value) (h0 : Heap) (n0 : Nat) (Z0 : n0 ≤ h0.size) (Sf : Sta Z h0 "jdk/internal/util/Preconditions" "SIOOBE_FORMATTER" "Ljava/util/function/BiFunction;" f) (hf : f.isRef = true) (h1 : ¬ i < 0) (h2 : i < n) :
    MetFree l (⟨"java/lang/String", "checkIndex", "(II)V"⟩ : MethodName) (head1 (Jvm.Cond.code (⟨"java/lang/String", "checkIndex", "(II)V"⟩ : MethodName) jdk_42_method_155_code 2 none :: ws) ({ frames := 1, cells := 0, slots := 0, locals := 14 } : Room)) (fun ar_ U => ar_ = #[(.int i), (.int n)] ∧ Z.Warmed39 U.vm ∧ U.heap = h0) (fun _ _ _ _ _ => True) (fun _ U o U' => Phi U (Q_rmChk Z i n f h0 n0) ({ frames := 1, cells := 0, slots := 0, locals := 14 } : Room).cells ({ frames := 1, cells := 0, slots := 0, locals := 14 } : Room).slots o U') := by
  refine MetFree.of_bodySF (plainFor_of_name pn_java_lang_String) hisR ?_
  intro p e s m args below meth c s₁ Bd hml0 hP hK
  obtain ⟨rfl, hZ, hh⟩ := hP
  have hx := Bd.exec
  have hby := Bd.bytes
  have hlk := Bd.notSynchronized
  have hml : c.maxLocals = 2 := hml0
  have hown : s.vm.findClass "java/lang/String" = some m.cls := findClass_of_methodNamed Bd.named
  have hown0 := hown
  have hnm := (name_of_methodNamed Bd.named Bd.method).1
  have hret := Bd.returns
  have X0 : Stand p l e ({ frames := 1, cells := 0, slots := 0, locals := 14 } : Room) s m #[(.int i), (.int n)] below meth c s₁ [] 0 0 := Stand.of_body Bd
  have e0 : s₁.heap = h0 := by rw [← hh, Bd.state]; rfl
  have N0 := Fr.nil n0
  have sz := Z0
  have K := Keep.refl h0 []
  show Runs p.tables e below (Phi s (Q_rmChk Z i n f h0 n0) ({ frames := 1, cells := 0, slots := 0, locals := 14 } : Room).cells ({ frames := 1, cells := 0, slots := 0, locals := 14 } : Room).slots) _
  refine Runs.st (fun t' k' => castTop (ef_jdk_42_method_155_II m i n ) k') ?_
  show Runs p.tables e below _ (s₁.setTop (mkF m 0 #[.val (.int i), .val (.int n)] []))
  refine Runs.st (fun t' k' => XS.iloadN X0.here hx rfl (hb hby d_jdk_42_method_155_0) rfl k') ?_
  refine Runs.st (fun t' k' => XS.iloadN X0.here hx rfl (hb hby d_jdk_42_method_155_1) rfl k') ?_
  obtain ⟨T1_, X1_, e1_, st1_⟩ := getS2 X0 hx hZ hown (host := "") (Or.inl (hw _ (List.mem_of_getElem? (i := 58) rfl))) Via.refl e0 Sf (g := (mkF m 2 #[.val (.int i), .val (.int n)] [(.int n), (.int i)])) rfl (hb hby d_jdk_42_method_155_2)
  refine Runs.st (st1_) ?_
  show Runs p.tables e below _ (T1_.setTop (mkF m 5 #[.val (.int i), .val (.int n)] [f, (.int n), (.int i)]))
  obtain ⟨_, _, ⟨T2_, L2_, k2_, n2_⟩, -, X2_, ⟨Lc2_, hQ2_, l2_, y2_, z2_⟩, st2_⟩ := Jvm.LawKit.callS X1_ hx (y := (⟨"jdk/internal/util/Preconditions", "checkIndex", "(IILjava/util/function/BiFunction;)I"⟩ : MethodName)) hown (mvT hZ (hw _ (List.mem_of_getElem? (i := 60) rfl))) (mvT hZ (hw _ (List.mem_of_getElem? (i := 61) rfl))) (mvT hZ (hw _ (List.mem_of_getElem? (i := 59) rfl))) (mvT hZ (hw _ (List.mem_of_getElem? (i := 62) rfl))) (by decide) (backOf (W := 0) (rmPre l Z a0 hw [] i n f h0 n0 sz hf h1 h2) hZ (hw _ (List.mem_of_getElem? (i := 62) rfl)) (hw _ (List.mem_of_getElem? (i := 59) rfl)) (by decide) (by decide)) (g := (mkF m 5 #[.val (.int i), .val (.int n)] [f, (.int n), (.int i)])) rfl (by rw [hml]; rfl) (argsL := [(.int i), (.int n), f]) (rest := []) (lenOf pd__28IILjava_2futil_2ffunction_2fBiFunction_3b_29I rfl) rfl (by show 2 * 0 + _ ≤ _; exact Nat.le_of_eq rfl) (hb hby d_jdk_42_method_155_5) (fun _ _ => ⟨rfl, e1_, (by decide : 0 + 0 ≤ _), (by decide : 0 + 0 ≤ _)⟩)
  dsimp only [Pt.U, Pt.locs, Pt.cells, Pt.slots] at X2_ l2_ y2_ z2_ st2_ hQ2_
  subst l2_ y2_ z2_
  obtain ⟨rfl, N2_q, e2_⟩ := hQ2_
  have N2_ := Fr.app N0 N2_q
  refine Runs.st (st2_) ?_
  replace X2_ := wider X2_ (c' := 0) (s' := 0) (by decide) (by decide)
  show Runs p.tables e below _ (T2_.setTop (mkF m 8 #[.val (.int i), .val (.int n)] [(.int i)]))
  refine Runs.st (fun t' k' => XS.pop X2_.here hx rfl (hb hby d_jdk_42_method_155_8) rfl rfl k') ?_
  refine Runs.ret X2_ hlk (v := none) (fun _ => rfl) (by decide) (by decide) ?_ (fun fs hr => X2_.returnOut hx hret (hb hby d_jdk_42_method_155_9) hr)
  try rw [e2_]
  exact ⟨rfl, N2_, rfl⟩
def Q_rmLCh (Z : State) (b : Addr) (i : Int32) (n : Int32) (k : ClassId) (vs : List Value) (x : Int32) (f : Value) (h0 : Heap) (n0 : Nat) : Option Value → Heap → List Loc → Prop := (fun v h L => v = some (.int (nar .char (((x &&& (255 : Int32)).toUInt32.toUInt16.toUInt32.toInt32)))) ∧ Fr n0 L ∧ h = h0)
theorem pn_java_lang_StringLatin1 : plainName "java/lang/StringLatin1" = true := by first | (simp [plainName, overriddenIn]; done) | decide +kernel
theorem ef_jdk_43_method_2_RI (m : MethodId) (x0 : Addr) (x1 : Int32)  : entryFrame m #[(.ref x0), (.int x1)] 2 = mkF m 0 #[.val (.ref x0), .val (.int x1)] [] := by first | (simp [entryFrame, mkF, argsToLocals, Value.category]; done) | rfl
theorem d_jdk_43_method_2_0 : decode jdk_43_method_2_code 0 = .ok (.iload_n 1, 1) := by decide +kernel
theorem d_jdk_43_method_2_1 : decode jdk_43_method_2_code 1 = .ok (.aload_n 0, 1) := by decide +kernel
theorem d_jdk_43_method_2_2 : decode jdk_43_method_2_code 2 = .ok (.arraylength, 1) := by decide +kernel
theorem pd__28II_29V : parseMethodDescriptor "(II)V" = some ⟨[.int, .int], none⟩ := by decide +kernel
theorem d_jdk_43_method_2_3 : decode jdk_43_method_2_code 3 = .ok (.invokestatic 9, 3) := by decide +kernel
theorem d_jdk_43_method_2_6 : decode jdk_43_method_2_code 6 = .ok (.aload_n 0, 1) := by decide +kernel
theorem d_jdk_43_method_2_7 : decode jdk_43_method_2_code 7 = .ok (.iload_n 1, 1) := by decide +kernel
theorem d_jdk_43_method_2_8 : decode jdk_43_method_2_code 8 = .ok (.baload, 1) := by decide +kernel
theorem d_jdk_43_method_2_9 : decode jdk_43_method_2_code 9 = .ok (.sipush 255, 3) := by decide +kernel
theorem d_jdk_43_method_2_12 : decode jdk_43_method_2_code 12 = .ok (.iand, 1) := by decide +kernel
theorem d_jdk_43_method_2_13 : decode jdk_43_method_2_code 13 = .ok (.i2c, 1) := by decide +kernel
theorem d_jdk_43_method_2_14 : decode jdk_43_method_2_code 14 = .ok (.ireturn, 1) := by decide +kernel
set_option maxRecDepth 65536 in
set_option maxHeartbeats 40000000 in
theorem rmLCh (l : Launch) (Z : State) (a0 : Array Value) (hw : ∀ d ∈ tables_1, d.before a0 Z = true) (ws : List Jvm.Cond) (b : Addr) (i : Int32) (n : Int32) (k : ClassId) (vs : List Value) (x : Int32) (f : Value) (h0 : Heap) (n0 : Nat) (Z0 : n0 ≤ h0.size) (Vb : Arv Z h0 b k .byte n vs (.int (0 : Int32))) (Sf : Sta Z h0 "jdk/internal/util/Preconditions" "SIOOBE_FORMATTER" "Ljava/util/function/BiFunction;" f) (hf : f.isRef = true) (h1 : ¬ i < 0) (h2 : i < n) (hx_ : vs.getD i.toNatClampNeg (.int (0 : Int32)) = .int x) :
    MetFree l (⟨"java/lang/StringLatin1", "charAt", "([BI)C"⟩ : MethodName) (head1 (Jvm.Cond.code (⟨"java/lang/StringLatin1", "charAt", "([BI)C"⟩ : MethodName) jdk_43_method_2_code 2 (some .char) :: ws) ({ frames := 2, cells := 0, slots := 0, locals := 27 } : Room)) (fun ar_ U => ar_ = #[(.ref b), (.int i)] ∧ Z.Warmed39 U.vm ∧ U.heap = h0) (fun _ _ _ _ _ => True) (fun _ U o U' => Phi U (Q_rmLCh Z b i n k vs x f h0 n0) ({ frames := 2, cells := 0, slots := 0, locals := 27 } : Room).cells ({ frames := 2, cells := 0, slots := 0, locals := 27 } : Room).slots o U') := by
  refine MetFree.of_bodySF (plainFor_of_name pn_java_lang_StringLatin1) hisR ?_
  intro p e s m args below meth c s₁ Bd hml0 hP hK
  obtain ⟨rfl, hZ, hh⟩ := hP
  have hx := Bd.exec
  have hby := Bd.bytes
  have hlk := Bd.notSynchronized
  have hml : c.maxLocals = 2 := hml0
  have hown : s.vm.findClass "java/lang/StringLatin1" = some m.cls := findClass_of_methodNamed Bd.named
  have hown0 := hown
  have hnm := (name_of_methodNamed Bd.named Bd.method).1
  have hret := Bd.returns
  have X0 : Stand p l e ({ frames := 2, cells := 0, slots := 0, locals := 27 } : Room) s m #[(.ref b), (.int i)] below meth c s₁ [] 0 0 := Stand.of_body Bd
  have e0 : s₁.heap = h0 := by rw [← hh, Bd.state]; rfl
  have N0 := Fr.nil n0
  have sz := Z0
  have K := Keep.refl h0 []
  show Runs p.tables e below (Phi s (Q_rmLCh Z b i n k vs x f h0 n0) ({ frames := 2, cells := 0, slots := 0, locals := 27 } : Room).cells ({ frames := 2, cells := 0, slots := 0, locals := 27 } : Room).slots) _
  refine Runs.st (fun t' k' => castTop (ef_jdk_43_method_2_RI m b i ) k') ?_
  show Runs p.tables e below _ (s₁.setTop (mkF m 0 #[.val (.ref b), .val (.int i)] []))
  refine Runs.st (fun t' k' => XS.iloadN X0.here hx rfl (hb hby d_jdk_43_method_2_0) rfl k') ?_
  refine Runs.st (fun t' k' => XS.aloadN X0.here hx rfl (hb hby d_jdk_43_method_2_1) rfl rfl k') ?_
  obtain ⟨cl1_, Ar1_, -, S1_, M1_, -, -⟩ := id Vb
  refine Runs.st (X0.arraylength hx (by rw [e0]; exact Ar1_.1) (State.isArrayOf_alike hZ.alike Ar1_.2.1) (g := (mkF m 2 #[.val (.ref b), .val (.int i)] [(.ref b), (.int i)])) rfl rfl (hb hby d_jdk_43_method_2_2)) ?_
  rw [len_of S1_ M1_]
  show Runs p.tables e below _ (s₁.setTop (mkF m 3 #[.val (.ref b), .val (.int i)] [(.int n), (.int i)]))
  obtain ⟨_, _, ⟨T2_, L2_, k2_, n2_⟩, -, X2_, ⟨Lc2_, hQ2_, l2_, y2_, z2_⟩, st2_⟩ := Jvm.LawKit.callS X0 hx (y := (⟨"java/lang/String", "checkIndex", "(II)V"⟩ : MethodName)) hown (mvT hZ (hw _ (List.mem_of_getElem? (i := 55) rfl))) (mvT hZ (hw _ (List.mem_of_getElem? (i := 56) rfl))) (mvT hZ (hw _ (List.mem_of_getElem? (i := 4) rfl))) (mvT hZ (hw _ (List.mem_of_getElem? (i := 57) rfl))) (by decide) (backOf (W := 0) (rmChk l Z a0 hw [] i n f h0 n0 sz Sf hf h1 h2) hZ (hw _ (List.mem_of_getElem? (i := 57) rfl)) (hw _ (List.mem_of_getElem? (i := 4) rfl)) (by decide) (by decide)) (g := (mkF m 3 #[.val (.ref b), .val (.int i)] [(.int n), (.int i)])) rfl (by rw [hml]; rfl) (argsL := [(.int i), (.int n)]) (rest := []) (lenOf pd__28II_29V rfl) rfl (by show 2 * 0 + _ ≤ _; exact Nat.le_of_eq rfl) (hb hby d_jdk_43_method_2_3) (fun _ _ => ⟨rfl, e0, (by decide : 0 + 0 ≤ _), (by decide : 0 + 0 ≤ _)⟩)
  dsimp only [Pt.U, Pt.locs, Pt.cells, Pt.slots] at X2_ l2_ y2_ z2_ st2_ hQ2_
  subst l2_ y2_ z2_
  obtain ⟨rfl, N2_q, e2_⟩ := hQ2_
  have N2_ := Fr.app N0 N2_q
  refine Runs.st (st2_) ?_
  replace X2_ := wider X2_ (c' := 0) (s' := 0) (by decide) (by decide)
  show Runs p.tables e below _ (T2_.setTop (mkF m 6 #[.val (.ref b), .val (.int i)] []))
  refine Runs.st (fun t' k' => XS.aloadN X2_.here hx rfl (hb hby d_jdk_43_method_2_6) rfl rfl k') ?_
  refine Runs.st (fun t' k' => XS.iloadN X2_.here hx rfl (hb hby d_jdk_43_method_2_7) rfl k') ?_
  obtain ⟨cl3_, Ar3_, -, S3_, M3_, Ha3_, -⟩ := id Vb
  have hin3_ : ¬ (i < 0 ∨ cl3_.slots.size ≤ (i).toNatClampNeg) := inb_of S3_ ⟨h1, h2⟩
  refine Runs.st (X2_.baloadBytes hx (j := i) (v := (.int x)) (by rw [e2_]; exact Ar3_.1) (State.isArrayOf_alike hZ.alike Ar3_.2.1) Ar3_.2.2 hin3_ (Ha3_.at hin3_ hx_) (g := (mkF m 8 #[.val (.ref b), .val (.int i)] [(.int i), (.ref b)])) rfl rfl (hb hby d_jdk_43_method_2_8)) ?_
  show Runs p.tables e below _ (T2_.setTop (mkF m 9 #[.val (.ref b), .val (.int i)] [(.int x)]))
  refine Runs.st (fun t' k' => XS.sipush X2_.here hx rfl (hb hby d_jdk_43_method_2_9) k') ?_
  refine Runs.st (fun t' k' => XS.iand X2_.here hx rfl (hb hby d_jdk_43_method_2_12) rfl k') ?_
  refine Runs.st (fun t' k' => XS.i2c X2_.here hx rfl (hb hby d_jdk_43_method_2_13) rfl k') ?_
  refine Runs.ret X2_ hlk (v := (some (.int (nar .char ((x &&& (255 : Int32)).toUInt32.toUInt16.toUInt32.toInt32))))) (fun h => by rw [hret] at h; cases h) (by decide) (by decide) ?_ (fun fs hr => retN X2_ hx (t := .char) hret (by simp) (hb hby d_jdk_43_method_2_14) hr)
  try rw [e2_]
  exact ⟨rfl, N2_, rfl⟩
def Q_rmCh (Z : State) (a : Addr) (i : Int32) (zc : Int32) (b : Addr) (n : Int32) (k : ClassId) (vs : List Value) (x : Int32) (f : Value) (r : Int32) (h0 : Heap) (n0 : Nat) : Option Value → Heap → List Loc → Prop := (fun v h L => v = some (.int r) ∧ Fr n0 L ∧ h = h0)
theorem ef_jdk_42_method_56_RI (m : MethodId) (x0 : Addr) (x1 : Int32)  : entryFrame m #[(.ref x0), (.int x1)] 2 = mkF m 0 #[.val (.ref x0), .val (.int x1)] [] := by first | (simp [entryFrame, mkF, argsToLocals, Value.category]; done) | rfl
theorem d_jdk_42_method_56_0 : decode jdk_42_method_56_code 0 = .ok (.aload_n 0, 1) := by decide +kernel
theorem pd__28_29Z : parseMethodDescriptor "()Z" = some ⟨[], some .boolean⟩ := by decide +kernel
theorem d_jdk_42_method_56_1 : decode jdk_42_method_56_code 1 = .ok (.invokevirtual 492, 3) := by decide +kernel
theorem d_jdk_42_method_56_4 : decode jdk_42_method_56_code 4 = .ok (.ifCond .eq 12, 3) := by decide +kernel
theorem d_jdk_42_method_56_7 : decode jdk_42_method_56_code 7 = .ok (.aload_n 0, 1) := by decide +kernel
theorem d_jdk_42_method_56_8 : decode jdk_42_method_56_code 8 = .ok (.getfield 9, 3) := by decide +kernel
theorem d_jdk_42_method_56_11 : decode jdk_42_method_56_code 11 = .ok (.iload_n 1, 1) := by decide +kernel
theorem pd__28_5bBI_29C : parseMethodDescriptor "([BI)C" = some ⟨[(.array .byte), .int], some .char⟩ := by decide +kernel
theorem d_jdk_42_method_56_12 : decode jdk_42_method_56_code 12 = .ok (.invokestatic 495, 3) := by decide +kernel
theorem d_jdk_42_method_56_15 : decode jdk_42_method_56_code 15 = .ok (.ireturn, 1) := by decide +kernel
set_option maxRecDepth 65536 in
set_option maxHeartbeats 40000000 in
theorem rmCh (l : Launch) (Z : State) (a0 : Array Value) (hw : ∀ d ∈ tables_1, d.before a0 Z = true) (ws : List Jvm.Cond) (a : Addr) (i : Int32) (zc : Int32) (b : Addr) (n : Int32) (k : ClassId) (vs : List Value) (x : Int32) (f : Value) (r : Int32) (h0 : Heap) (n0 : Nat) (Z0 : n0 ≤ h0.size) (E_a : Exa Z h0 a "java/lang/String") (Sc : Sta Z h0 "java/lang/String" "COMPACT_STRINGS" "Z" (.int zc)) (hzc : ¬ zc = 0) (Fc : Fld Z h0 a "java/lang/String" "coder" "B" (.int (0 : Int32))) (Fv : Fld Z h0 a "java/lang/String" "value" "[B" (.ref b)) (Vb : Arv Z h0 b k .byte n vs (.int (0 : Int32))) (Sf : Sta Z h0 "jdk/internal/util/Preconditions" "SIOOBE_FORMATTER" "Ljava/util/function/BiFunction;" f) (hf : f.isRef = true) (h1 : ¬ i < 0) (h2 : i < n) (hx_ : vs.getD i.toNatClampNeg (.int (0 : Int32)) = .int x) (hr_ : r = nar .char (((x &&& (255 : Int32)).toUInt32.toUInt16.toUInt32.toInt32))) :
    MetFree l (⟨"java/lang/String", "charAt", "(I)C"⟩ : MethodName) (head1 (Jvm.Cond.code (⟨"java/lang/String", "charAt", "(I)C"⟩ : MethodName) jdk_42_method_56_code 2 (some .char) :: ws) ({ frames := 3, cells := 0, slots := 0, locals := 40 } : Room)) (fun ar_ U => ar_ = #[(.ref a), (.int i)] ∧ Z.Warmed39 U.vm ∧ U.heap = h0) (fun _ _ _ _ _ => True) (fun _ U o U' => Phi U (Q_rmCh Z a i zc b n k vs x f r h0 n0) ({ frames := 3, cells := 0, slots := 0, locals := 40 } : Room).cells ({ frames := 3, cells := 0, slots := 0, locals := 40 } : Room).slots o U') := by
  refine MetFree.of_bodySF (plainFor_of_name pn_java_lang_String) hisR ?_
  intro p e s m args below meth c s₁ Bd hml0 hP hK
  obtain ⟨rfl, hZ, hh⟩ := hP
  have hx := Bd.exec
  have hby := Bd.bytes
  have hlk := Bd.notSynchronized
  have hml : c.maxLocals = 2 := hml0
  have hown : s.vm.findClass "java/lang/String" = some m.cls := findClass_of_methodNamed Bd.named
  have hown0 := hown
  have hnm := (name_of_methodNamed Bd.named Bd.method).1
  have hret := Bd.returns
  have X0 : Stand p l e ({ frames := 3, cells := 0, slots := 0, locals := 40 } : Room) s m #[(.ref a), (.int i)] below meth c s₁ [] 0 0 := Stand.of_body Bd
  have e0 : s₁.heap = h0 := by rw [← hh, Bd.state]; rfl
  have N0 := Fr.nil n0
  have sz := Z0
  have K := Keep.refl h0 []
  show Runs p.tables e below (Phi s (Q_rmCh Z a i zc b n k vs x f r h0 n0) ({ frames := 3, cells := 0, slots := 0, locals := 40 } : Room).cells ({ frames := 3, cells := 0, slots := 0, locals := 40 } : Room).slots) _
  refine Runs.st (fun t' k' => castTop (ef_jdk_42_method_56_RI m a i ) k') ?_
  show Runs p.tables e below _ (s₁.setTop (mkF m 0 #[.val (.ref a), .val (.int i)] []))
  refine Runs.st (fun t' k' => XS.aloadN X0.here hx rfl (hb hby d_jdk_42_method_56_0) rfl rfl k') ?_
  obtain ⟨cq1_, kq1_, q1_a, q1_b, q1_c⟩ := isOf hZ e0 E_a
  obtain ⟨_, _, ⟨T1_, L1_, k1_, n1_⟩, -, X1_, ⟨Lc1_, hQ1_, l1_, y1_, z1_⟩, st1_⟩ := X0.virtualBack hx (y := (⟨"java/lang/String", "isLatin1", "()Z"⟩ : MethodName)) (z := (⟨"java/lang/String", "isLatin1", "()Z"⟩ : MethodName)) hown (mvT hZ (hw _ (List.mem_of_getElem? (i := 46) rfl))) (mvT hZ (hw _ (List.mem_of_getElem? (i := 47) rfl))) (notFace_of_selects (args := #[]) (mvT hZ (hw _ (List.mem_of_getElem? (i := 49) rfl)))) (mvT hZ (hw _ (List.mem_of_getElem? (i := 49) rfl))) (mvT hZ (hw _ (List.mem_of_getElem? (i := 48) rfl))) (by decide) (backOf (W := 0) (rmLat l Z a0 hw [] a zc h0 n0 sz Sc hzc Fc) hZ (hw _ (List.mem_of_getElem? (i := 50) rfl)) (hw _ (List.mem_of_getElem? (i := 4) rfl)) (by decide) (by decide)) q1_a q1_c (g := (mkF m 1 #[.val (.ref a), .val (.int i)] [(.ref a)])) rfl (by rw [hml]; rfl) (Steps.refl _) (argsL := []) (rest := []) (lenOf pd__28_29Z rfl) rfl (by show 2 * 0 + _ ≤ _; exact Nat.le_of_eq rfl) (hb hby d_jdk_42_method_56_1) (fun _ _ => ⟨rfl, e0, (by decide : 0 + 0 ≤ _), (by decide : 0 + 0 ≤ _)⟩)
  dsimp only [Pt.U, Pt.locs, Pt.cells, Pt.slots] at X1_ l1_ y1_ z1_ st1_ hQ1_
  subst l1_ y1_ z1_
  obtain ⟨rfl, N1_q, e1_⟩ := hQ1_
  have N1_ := Fr.app N0 N1_q
  refine Runs.tr st1_ ?_
  replace X1_ := wider X1_ (c' := 0) (s' := 0) (by decide) (by decide)
  show Runs p.tables e below _ (T1_.setTop (mkF m 4 #[.val (.ref a), .val (.int i)] [(.int (1 : Int32))]))
  refine Runs.st (fun t' k' => XS.ifNo X1_.here hx rfl (hb hby d_jdk_42_method_56_4) rfl ((if0 _ _).trans (feq (by decide)).1) k') ?_
  show Runs p.tables e below _ (T1_.setTop (mkF m 7 #[.val (.ref a), .val (.int i)] []))
  refine Runs.st (fun t' k' => XS.aloadN X1_.here hx rfl (hb hby d_jdk_42_method_56_7) rfl rfl k') ?_
  obtain ⟨T2_, X2_, e2_, st2_⟩ := getF X1_ hx hZ hown (host := "") (Or.inl (hw _ (List.mem_of_getElem? (i := 29) rfl))) Via.refl e1_ Fv (g := (mkF m 8 #[.val (.ref a), .val (.int i)] [(.ref a)])) rfl rfl (hb hby d_jdk_42_method_56_8)
  refine Runs.st (st2_) ?_
  show Runs p.tables e below _ (T2_.setTop (mkF m 11 #[.val (.ref a), .val (.int i)] [(.ref b)]))
  refine Runs.st (fun t' k' => XS.iloadN X2_.here hx rfl (hb hby d_jdk_42_method_56_11) rfl k') ?_
  obtain ⟨_, _, ⟨T3_, L3_, k3_, n3_⟩, -, X3_, ⟨Lc3_, hQ3_, l3_, y3_, z3_⟩, st3_⟩ := Jvm.LawKit.callS X2_ hx (y := (⟨"java/lang/StringLatin1", "charAt", "([BI)C"⟩ : MethodName)) hown (mvT hZ (hw _ (List.mem_of_getElem? (i := 51) rfl))) (mvT hZ (hw _ (List.mem_of_getElem? (i := 52) rfl))) (mvT hZ (hw _ (List.mem_of_getElem? (i := 53) rfl))) (mvT hZ (hw _ (List.mem_of_getElem? (i := 54) rfl))) (by decide) (backOf (W := 0) (rmLCh l Z a0 hw [] b i n k vs x f h0 n0 sz Vb Sf hf h1 h2 hx_) hZ (hw _ (List.mem_of_getElem? (i := 54) rfl)) (hw _ (List.mem_of_getElem? (i := 53) rfl)) (by decide) (by decide)) (g := (mkF m 12 #[.val (.ref a), .val (.int i)] [(.int i), (.ref b)])) rfl (by rw [hml]; rfl) (argsL := [(.ref b), (.int i)]) (rest := []) (lenOf pd__28_5bBI_29C rfl) rfl (by show 2 * 0 + _ ≤ _; exact Nat.le_of_eq rfl) (hb hby d_jdk_42_method_56_12) (fun _ _ => ⟨rfl, e2_, (by decide : 0 + 0 ≤ _), (by decide : 0 + 0 ≤ _)⟩)
  dsimp only [Pt.U, Pt.locs, Pt.cells, Pt.slots] at X3_ l3_ y3_ z3_ st3_ hQ3_
  subst l3_ y3_ z3_
  obtain ⟨rfl, N3_q, e3_⟩ := hQ3_
  have N3_ := Fr.app N1_ N3_q
  refine Runs.st (st3_) ?_
  replace X3_ := wider X3_ (c' := 0) (s' := 0) (by decide) (by decide)
  show Runs p.tables e below _ (T3_.setTop (mkF m 15 #[.val (.ref a), .val (.int i)] [(.int (nar .char (((x &&& (255 : Int32)).toUInt32.toUInt16.toUInt32.toInt32))))]))
  refine Runs.ret X3_ hlk (v := (some (.int (nar .char (nar .char (((x &&& (255 : Int32)).toUInt32.toUInt16.toUInt32.toInt32))))))) (fun h => by rw [hret] at h; cases h) (by decide) (by decide) ?_ (fun fs hr => retN X3_ hx (t := .char) hret (by simp) (hb hby d_jdk_42_method_56_15) hr)
  try rw [e3_]
  exact ⟨congrArg (fun z => some (Value.int z)) ((own_nar2 _).trans hr_.symm), N3_, rfl⟩
def Q_rmCA4 (Z : State) (a : Addr) (b : Addr) (c0 c1 c2 c3 : Int32) (k1 k2 : ClassId) (h0 : Heap) (n0 : Nat) : Option Value → Heap → List Loc → Prop := (fun v h L => v = some (.int (4 : Int32)) ∧ Fr n0 L ∧ Keep h0 h [b] ∧ Arv Z h b k2 .byte (4 : Int32) [(.int (nar .byte (c0.toInt8.toInt32))), (.int (nar .byte (c1.toInt8.toInt32))), (.int (nar .byte (c2.toInt8.toInt32))), (.int (nar .byte (c3.toInt8.toInt32)))] (.int (0 : Int32)))
theorem pn_java_lang_StringUTF16 : plainName "java/lang/StringUTF16" = true := by first | (simp [plainName, overriddenIn]; done) | decide +kernel
theorem ef_jdk_52_method_21_RIRII (m : MethodId) (x0 : Addr) (x1 : Int32) (x2 : Addr) (x3 : Int32) (x4 : Int32)  : entryFrame m #[(.ref x0), (.int x1), (.ref x2), (.int x3), (.int x4)] 7 = mkF m 0 #[.val (.ref x0), .val (.int x1), .val (.ref x2), .val (.int x3), .val (.int x4), .unset, .unset] [] := by first | (simp [entryFrame, mkF, argsToLocals, Value.category]; done) | rfl
theorem d_jdk_52_method_21_0 : decode jdk_52_method_21_code 0 = .ok (.iconst 0, 1) := by decide +kernel
theorem d_jdk_52_method_21_1 : decode jdk_52_method_21_code 1 = .ok (.istore 5, 2) := by decide +kernel
theorem d_jdk_52_method_21_3 : decode jdk_52_method_21_code 3 = .ok (.iload 5, 2) := by decide +kernel
theorem d_jdk_52_method_21_5 : decode jdk_52_method_21_code 5 = .ok (.iload 4, 2) := by decide +kernel
theorem d_jdk_52_method_21_7 : decode jdk_52_method_21_code 7 = .ok (.if_icmp .ge 37, 3) := by decide +kernel
theorem d_jdk_52_method_21_10 : decode jdk_52_method_21_code 10 = .ok (.aload_n 0, 1) := by decide +kernel
theorem d_jdk_52_method_21_11 : decode jdk_52_method_21_code 11 = .ok (.iload_n 1, 1) := by decide +kernel
theorem d_jdk_52_method_21_12 : decode jdk_52_method_21_code 12 = .ok (.caload, 1) := by decide +kernel
theorem d_jdk_52_method_21_13 : decode jdk_52_method_21_code 13 = .ok (.istore 6, 2) := by decide +kernel
theorem d_jdk_52_method_21_15 : decode jdk_52_method_21_code 15 = .ok (.iload 6, 2) := by decide +kernel
theorem d_jdk_52_method_21_17 : decode jdk_52_method_21_code 17 = .ok (.sipush 255, 3) := by decide +kernel
theorem d_jdk_52_method_21_20 : decode jdk_52_method_21_code 20 = .ok (.if_icmp .le 6, 3) := by decide +kernel
theorem d_jdk_52_method_21_26 : decode jdk_52_method_21_code 26 = .ok (.aload_n 2, 1) := by decide +kernel
theorem d_jdk_52_method_21_27 : decode jdk_52_method_21_code 27 = .ok (.iload_n 3, 1) := by decide +kernel
theorem d_jdk_52_method_21_28 : decode jdk_52_method_21_code 28 = .ok (.iload 6, 2) := by decide +kernel
theorem d_jdk_52_method_21_30 : decode jdk_52_method_21_code 30 = .ok (.i2b, 1) := by decide +kernel
theorem d_jdk_52_method_21_31 : decode jdk_52_method_21_code 31 = .ok (.bastore, 1) := by decide +kernel
theorem d_jdk_52_method_21_32 : decode jdk_52_method_21_code 32 = .ok (.iinc 1 1, 3) := by decide +kernel
theorem d_jdk_52_method_21_35 : decode jdk_52_method_21_code 35 = .ok (.iinc 3 1, 3) := by decide +kernel
theorem d_jdk_52_method_21_38 : decode jdk_52_method_21_code 38 = .ok (.iinc 5 1, 3) := by decide +kernel
theorem d_jdk_52_method_21_41 : decode jdk_52_method_21_code 41 = .ok (.goto (-38), 3) := by decide +kernel
theorem d_jdk_52_method_21_44 : decode jdk_52_method_21_code 44 = .ok (.iload 4, 2) := by decide +kernel
theorem d_jdk_52_method_21_46 : decode jdk_52_method_21_code 46 = .ok (.ireturn, 1) := by decide +kernel
set_option maxRecDepth 65536 in
set_option maxHeartbeats 40000000 in
theorem rmCA4 (l : Launch) (Z : State) (a0 : Array Value) (hw : ∀ d ∈ tables_1, d.before a0 Z = true) (ws : List Jvm.Cond) (a : Addr) (b : Addr) (c0 c1 c2 c3 : Int32) (k1 k2 : ClassId) (h0 : Heap) (n0 : Nat) (Z0 : n0 ≤ h0.size) (V_a : Arv Z h0 a k1 .char (4 : Int32) [(.int c0), (.int c1), (.int c2), (.int c3)] (.int (0 : Int32))) (V_b : Arv Z h0 b k2 .byte (4 : Int32) [(.int (0 : Int32)), (.int (0 : Int32)), (.int (0 : Int32)), (.int (0 : Int32))] (.int (0 : Int32))) (ne_a_b : a ≠ b) (g_b : n0 ≤ b) (u0 : ¬ ((255 : Int32) < c0)) (u1 : ¬ ((255 : Int32) < c1)) (u2 : ¬ ((255 : Int32) < c2)) (u3 : ¬ ((255 : Int32) < c3)) :
    MetFree l (⟨"java/lang/StringUTF16", "compress", "([CI[BII)I"⟩ : MethodName) (head1 (Jvm.Cond.code (⟨"java/lang/StringUTF16", "compress", "([CI[BII)I"⟩ : MethodName) jdk_52_method_21_code 7 (some .int) :: ws) ({ frames := 0, cells := 0, slots := 0, locals := 0 } : Room)) (fun ar_ U => ar_ = #[(.ref a), (.int (0 : Int32)), (.ref b), (.int (0 : Int32)), (.int (4 : Int32))] ∧ Z.Warmed39 U.vm ∧ U.heap = h0) (fun _ _ _ _ _ => True) (fun _ U o U' => Phi U (Q_rmCA4 Z a b c0 c1 c2 c3 k1 k2 h0 n0) ({ frames := 0, cells := 0, slots := 0, locals := 0 } : Room).cells ({ frames := 0, cells := 0, slots := 0, locals := 0 } : Room).slots o U') := by
  refine MetFree.of_bodySF (plainFor_of_name pn_java_lang_StringUTF16) hisR ?_
  intro p e s m args below meth c s₁ Bd hml0 hP hK
  obtain ⟨rfl, hZ, hh⟩ := hP
  have hx := Bd.exec
  have hby := Bd.bytes
  have hlk := Bd.notSynchronized
  have hml : c.maxLocals = 7 := hml0
  have hown : s.vm.findClass "java/lang/StringUTF16" = some m.cls := findClass_of_methodNamed Bd.named
  have hown0 := hown
  have hnm := (name_of_methodNamed Bd.named Bd.method).1
  have hret := Bd.returns
  have X0 : Stand p l e ({ frames := 0, cells := 0, slots := 0, locals := 0 } : Room) s m #[(.ref a), (.int (0 : Int32)), (.ref b), (.int (0 : Int32)), (.int (4 : Int32))] below meth c s₁ [] 0 0 := Stand.of_body Bd
  have e0 : s₁.heap = h0 := by rw [← hh, Bd.state]; rfl
  have N0 := Fr.nil n0
  have sz := Z0
  have K := Keep.refl h0 [b]
  show Runs p.tables e below (Phi s (Q_rmCA4 Z a b c0 c1 c2 c3 k1 k2 h0 n0) ({ frames := 0, cells := 0, slots := 0, locals := 0 } : Room).cells ({ frames := 0, cells := 0, slots := 0, locals := 0 } : Room).slots) _
  refine Runs.st (fun t' k' => castTop (ef_jdk_52_method_21_RIRII m a (0 : Int32) b (0 : Int32) (4 : Int32) ) k') ?_
  show Runs p.tables e below _ (s₁.setTop (mkF m 0 #[.val (.ref a), .val (.int (0 : Int32)), .val (.ref b), .val (.int (0 : Int32)), .val (.int (4 : Int32)), .unset, .unset] []))
  refine Runs.st (fun t' k' => XS.iconst X0.here hx rfl (hb hby d_jdk_52_method_21_0) k') ?_
  refine Runs.st (fun t' k' => XS.istore X0.here hx rfl (hb hby d_jdk_52_method_21_1) rfl (l' := #[.val (.ref a), .val (.int (0 : Int32)), .val (.ref b), .val (.int (0 : Int32)), .val (.int (4 : Int32)), .val (.int (0 : Int32)), .unset]) rfl k') ?_
  refine Runs.st (fun t' k' => XS.iload X0.here hx rfl (hb hby d_jdk_52_method_21_3) rfl k') ?_
  refine Runs.st (fun t' k' => XS.iload X0.here hx rfl (hb hby d_jdk_52_method_21_5) rfl k') ?_
  refine Runs.st (fun t' k' => XS.icmpNo X0.here hx rfl (hb hby d_jdk_52_method_21_7) rfl (tlt (by decide)).2.1 k') ?_
  show Runs p.tables e below _ (s₁.setTop (mkF m 10 #[.val (.ref a), .val (.int (0 : Int32)), .val (.ref b), .val (.int (0 : Int32)), .val (.int (4 : Int32)), .val (.int (0 : Int32)), .unset] []))
  refine Runs.st (fun t' k' => XS.aloadN X0.here hx rfl (hb hby d_jdk_52_method_21_10) rfl rfl k') ?_
  refine Runs.st (fun t' k' => XS.iloadN X0.here hx rfl (hb hby d_jdk_52_method_21_11) rfl k') ?_
  obtain ⟨cl1_, Ar1_, -, S1_, M1_, Ha1_, -⟩ := id V_a
  have hin1_ : ¬ ((0 : Int32) < 0 ∨ cl1_.slots.size ≤ ((0 : Int32)).toNatClampNeg) := inb_of S1_ ⟨by decide, by decide⟩
  refine Runs.st (X0.caload hx (j := (0 : Int32)) (v := (.int c0)) (by rw [e0]; exact Ar1_.1) (State.isArrayOf_alike hZ.alike Ar1_.2.1) Ar1_.2.2 hin1_ (Ha1_.at hin1_ rfl) (g := (mkF m 12 #[.val (.ref a), .val (.int (0 : Int32)), .val (.ref b), .val (.int (0 : Int32)), .val (.int (4 : Int32)), .val (.int (0 : Int32)), .unset] [(.int (0 : Int32)), (.ref a)])) rfl rfl (hb hby d_jdk_52_method_21_12)) ?_
  show Runs p.tables e below _ (s₁.setTop (mkF m 13 #[.val (.ref a), .val (.int (0 : Int32)), .val (.ref b), .val (.int (0 : Int32)), .val (.int (4 : Int32)), .val (.int (0 : Int32)), .unset] [(.int c0)]))
  refine Runs.st (fun t' k' => XS.istore X0.here hx rfl (hb hby d_jdk_52_method_21_13) rfl (l' := #[.val (.ref a), .val (.int (0 : Int32)), .val (.ref b), .val (.int (0 : Int32)), .val (.int (4 : Int32)), .val (.int (0 : Int32)), .val (.int c0)]) rfl k') ?_
  refine Runs.st (fun t' k' => XS.iload X0.here hx rfl (hb hby d_jdk_52_method_21_15) rfl k') ?_
  refine Runs.st (fun t' k' => XS.sipush X0.here hx rfl (hb hby d_jdk_52_method_21_17) k') ?_
  refine Runs.st (fun t' k' => XS.icmpYes X0.here hx rfl (pc0 := 20) (pc' := 26) rfl (hb hby d_jdk_52_method_21_20) rfl (flt u0).2.2.2 (by decide) (by decide) k') ?_
  show Runs p.tables e below _ (s₁.setTop (mkF m 26 #[.val (.ref a), .val (.int (0 : Int32)), .val (.ref b), .val (.int (0 : Int32)), .val (.int (4 : Int32)), .val (.int (0 : Int32)), .val (.int c0)] []))
  refine Runs.st (fun t' k' => XS.aloadN X0.here hx rfl (hb hby d_jdk_52_method_21_26) rfl rfl k') ?_
  refine Runs.st (fun t' k' => XS.iloadN X0.here hx rfl (hb hby d_jdk_52_method_21_27) rfl k') ?_
  refine Runs.st (fun t' k' => XS.iload X0.here hx rfl (hb hby d_jdk_52_method_21_28) rfl k') ?_
  refine Runs.st (fun t' k' => XS.i2b X0.here hx rfl (hb hby d_jdk_52_method_21_30) rfl k') ?_
  obtain ⟨cl2_, Ar2_, q2_, S2_, M2_, Ha2_, G2_⟩ := V_b
  have hin2_ : ¬ ((0 : Int32) < 0 ∨ cl2_.slots.size ≤ ((0 : Int32)).toNatClampNeg) := inb_of S2_ ⟨by decide, by decide⟩
  obtain ⟨T2_, h2_, X2_, e2_, W2_, st2_⟩ := stB X0 hx hZ e0 Ar2_ (j := (0 : Int32)) hin2_ (g := (mkF m 31 #[.val (.ref a), .val (.int (0 : Int32)), .val (.ref b), .val (.int (0 : Int32)), .val (.int (4 : Int32)), .val (.int (0 : Int32)), .val (.int c0)] [(.int (c0.toInt8.toInt32)), (.int (0 : Int32)), (.ref b)])) rfl rfl (hb hby d_jdk_52_method_21_31)
  refine Runs.st (st2_) ?_
  have V_b := Arv.set Ar2_ q2_ S2_ M2_ Ha2_ G2_ (fits_nar_byte _) W2_ 0 rfl (Nat.le_of_ble_eq_true rfl)
  replace V_a := V_a.other W2_ ne_a_b
  replace sz := Nat.le_trans sz (Keep.of_wr W2_).1
  have N2_ := Fr.snoc X2_ N0 g_b
  replace K := K.wr W2_ (Or.inl (List.mem_of_getElem? (i := 0) rfl))
  show Runs p.tables e below _ (T2_.setTop (mkF m 32 #[.val (.ref a), .val (.int (0 : Int32)), .val (.ref b), .val (.int (0 : Int32)), .val (.int (4 : Int32)), .val (.int (0 : Int32)), .val (.int c0)] []))
  refine Runs.st (fun t' k' => XS.iinc X2_.here hx rfl (hb hby d_jdk_52_method_21_32) rfl (l' := #[.val (.ref a), .val (.int ((0 : Int32) + (1 : Int32))), .val (.ref b), .val (.int (0 : Int32)), .val (.int (4 : Int32)), .val (.int (0 : Int32)), .val (.int c0)]) rfl k') ?_
  refine Runs.st (fun t' k' => XS.iinc X2_.here hx rfl (hb hby d_jdk_52_method_21_35) rfl (l' := #[.val (.ref a), .val (.int ((0 : Int32) + (1 : Int32))), .val (.ref b), .val (.int ((0 : Int32) + (1 : Int32))), .val (.int (4 : Int32)), .val (.int (0 : Int32)), .val (.int c0)]) rfl k') ?_
  refine Runs.st (fun t' k' => XS.iinc X2_.here hx rfl (hb hby d_jdk_52_method_21_38) rfl (l' := #[.val (.ref a), .val (.int ((0 : Int32) + (1 : Int32))), .val (.ref b), .val (.int ((0 : Int32) + (1 : Int32))), .val (.int (4 : Int32)), .val (.int ((0 : Int32) + (1 : Int32))), .val (.int c0)]) rfl k') ?_
  show Runs p.tables e below _ (T2_.setTop (mkF m 41 #[.val (.ref a), .val (.int ((0 : Int32) + (1 : Int32))), .val (.ref b), .val (.int ((0 : Int32) + (1 : Int32))), .val (.int (4 : Int32)), .val (.int ((0 : Int32) + (1 : Int32))), .val (.int c0)] []))
  rw [show ((0 : Int32) + (1 : Int32)) = (1 : Int32) from rfl]
  show Runs p.tables e below _ (T2_.setTop (mkF m 41 #[.val (.ref a), .val (.int (1 : Int32)), .val (.ref b), .val (.int (1 : Int32)), .val (.int (4 : Int32)), .val (.int (1 : Int32)), .val (.int c0)] []))
  refine Runs.st (fun t' k' => XS.goto X2_.here hx rfl (pc0 := 41) (pc' := 3) rfl (hb hby d_jdk_52_method_21_41) (by decide) (by decide) k') ?_
  refine Runs.st (fun t' k' => XS.iload X2_.here hx rfl (hb hby d_jdk_52_method_21_3) rfl k') ?_
  show Runs p.tables e below _ (T2_.setTop (mkF m 5 #[.val (.ref a), .val (.int (1 : Int32)), .val (.ref b), .val (.int (1 : Int32)), .val (.int (4 : Int32)), .val (.int (1 : Int32)), .val (.int c0)] [(.int (1 : Int32))]))
  refine Runs.st (fun t' k' => XS.iload X2_.here hx rfl (hb hby d_jdk_52_method_21_5) rfl k') ?_
  refine Runs.st (fun t' k' => XS.icmpNo X2_.here hx rfl (hb hby d_jdk_52_method_21_7) rfl (tlt (by decide)).2.1 k') ?_
  show Runs p.tables e below _ (T2_.setTop (mkF m 10 #[.val (.ref a), .val (.int (1 : Int32)), .val (.ref b), .val (.int (1 : Int32)), .val (.int (4 : Int32)), .val (.int (1 : Int32)), .val (.int c0)] []))
  refine Runs.st (fun t' k' => XS.aloadN X2_.here hx rfl (hb hby d_jdk_52_method_21_10) rfl rfl k') ?_
  refine Runs.st (fun t' k' => XS.iloadN X2_.here hx rfl (hb hby d_jdk_52_method_21_11) rfl k') ?_
  obtain ⟨cl3_, Ar3_, -, S3_, M3_, Ha3_, -⟩ := id V_a
  have hin3_ : ¬ ((1 : Int32) < 0 ∨ cl3_.slots.size ≤ ((1 : Int32)).toNatClampNeg) := inb_of S3_ ⟨by decide, by decide⟩
  refine Runs.st (X2_.caload hx (j := (1 : Int32)) (v := (.int c1)) (by rw [e2_]; exact Ar3_.1) (State.isArrayOf_alike hZ.alike Ar3_.2.1) Ar3_.2.2 hin3_ (Ha3_.at hin3_ rfl) (g := (mkF m 12 #[.val (.ref a), .val (.int (1 : Int32)), .val (.ref b), .val (.int (1 : Int32)), .val (.int (4 : Int32)), .val (.int (1 : Int32)), .val (.int c0)] [(.int (1 : Int32)), (.ref a)])) rfl rfl (hb hby d_jdk_52_method_21_12)) ?_
  show Runs p.tables e below _ (T2_.setTop (mkF m 13 #[.val (.ref a), .val (.int (1 : Int32)), .val (.ref b), .val (.int (1 : Int32)), .val (.int (4 : Int32)), .val (.int (1 : Int32)), .val (.int c0)] [(.int c1)]))
  refine Runs.st (fun t' k' => XS.istore X2_.here hx rfl (hb hby d_jdk_52_method_21_13) rfl (l' := #[.val (.ref a), .val (.int (1 : Int32)), .val (.ref b), .val (.int (1 : Int32)), .val (.int (4 : Int32)), .val (.int (1 : Int32)), .val (.int c1)]) rfl k') ?_
  refine Runs.st (fun t' k' => XS.iload X2_.here hx rfl (hb hby d_jdk_52_method_21_15) rfl k') ?_
  refine Runs.st (fun t' k' => XS.sipush X2_.here hx rfl (hb hby d_jdk_52_method_21_17) k') ?_
  refine Runs.st (fun t' k' => XS.icmpYes X2_.here hx rfl (pc0 := 20) (pc' := 26) rfl (hb hby d_jdk_52_method_21_20) rfl (flt u1).2.2.2 (by decide) (by decide) k') ?_
  show Runs p.tables e below _ (T2_.setTop (mkF m 26 #[.val (.ref a), .val (.int (1 : Int32)), .val (.ref b), .val (.int (1 : Int32)), .val (.int (4 : Int32)), .val (.int (1 : Int32)), .val (.int c1)] []))
  refine Runs.st (fun t' k' => XS.aloadN X2_.here hx rfl (hb hby d_jdk_52_method_21_26) rfl rfl k') ?_
  refine Runs.st (fun t' k' => XS.iloadN X2_.here hx rfl (hb hby d_jdk_52_method_21_27) rfl k') ?_
  refine Runs.st (fun t' k' => XS.iload X2_.here hx rfl (hb hby d_jdk_52_method_21_28) rfl k') ?_
  refine Runs.st (fun t' k' => XS.i2b X2_.here hx rfl (hb hby d_jdk_52_method_21_30) rfl k') ?_
  obtain ⟨cl4_, Ar4_, q4_, S4_, M4_, Ha4_, G4_⟩ := V_b
  have hin4_ : ¬ ((1 : Int32) < 0 ∨ cl4_.slots.size ≤ ((1 : Int32)).toNatClampNeg) := inb_of S4_ ⟨by decide, by decide⟩
  obtain ⟨T4_, h4_, X4_, e4_, W4_, st4_⟩ := stB X2_ hx hZ e2_ Ar4_ (j := (1 : Int32)) hin4_ (g := (mkF m 31 #[.val (.ref a), .val (.int (1 : Int32)), .val (.ref b), .val (.int (1 : Int32)), .val (.int (4 : Int32)), .val (.int (1 : Int32)), .val (.int c1)] [(.int (c1.toInt8.toInt32)), (.int (1 : Int32)), (.ref b)])) rfl rfl (hb hby d_jdk_52_method_21_31)
  refine Runs.st (st4_) ?_
  have V_b := Arv.set Ar4_ q4_ S4_ M4_ Ha4_ G4_ (fits_nar_byte _) W4_ 1 rfl (Nat.le_of_ble_eq_true rfl)
  replace V_a := V_a.other W4_ ne_a_b
  replace sz := Nat.le_trans sz (Keep.of_wr W4_).1
  have N4_ := Fr.snoc X4_ N2_ g_b
  replace K := K.wr W4_ (Or.inl (List.mem_of_getElem? (i := 0) rfl))
  show Runs p.tables e below _ (T4_.setTop (mkF m 32 #[.val (.ref a), .val (.int (1 : Int32)), .val (.ref b), .val (.int (1 : Int32)), .val (.int (4 : Int32)), .val (.int (1 : Int32)), .val (.int c1)] []))
  refine Runs.st (fun t' k' => XS.iinc X4_.here hx rfl (hb hby d_jdk_52_method_21_32) rfl (l' := #[.val (.ref a), .val (.int ((1 : Int32) + (1 : Int32))), .val (.ref b), .val (.int (1 : Int32)), .val (.int (4 : Int32)), .val (.int (1 : Int32)), .val (.int c1)]) rfl k') ?_
  refine Runs.st (fun t' k' => XS.iinc X4_.here hx rfl (hb hby d_jdk_52_method_21_35) rfl (l' := #[.val (.ref a), .val (.int ((1 : Int32) + (1 : Int32))), .val (.ref b), .val (.int ((1 : Int32) + (1 : Int32))), .val (.int (4 : Int32)), .val (.int (1 : Int32)), .val (.int c1)]) rfl k') ?_
  refine Runs.st (fun t' k' => XS.iinc X4_.here hx rfl (hb hby d_jdk_52_method_21_38) rfl (l' := #[.val (.ref a), .val (.int ((1 : Int32) + (1 : Int32))), .val (.ref b), .val (.int ((1 : Int32) + (1 : Int32))), .val (.int (4 : Int32)), .val (.int ((1 : Int32) + (1 : Int32))), .val (.int c1)]) rfl k') ?_
  show Runs p.tables e below _ (T4_.setTop (mkF m 41 #[.val (.ref a), .val (.int ((1 : Int32) + (1 : Int32))), .val (.ref b), .val (.int ((1 : Int32) + (1 : Int32))), .val (.int (4 : Int32)), .val (.int ((1 : Int32) + (1 : Int32))), .val (.int c1)] []))
  rw [show ((1 : Int32) + (1 : Int32)) = (2 : Int32) from rfl]
  show Runs p.tables e below _ (T4_.setTop (mkF m 41 #[.val (.ref a), .val (.int (2 : Int32)), .val (.ref b), .val (.int (2 : Int32)), .val (.int (4 : Int32)), .val (.int (2 : Int32)), .val (.int c1)] []))
  refine Runs.st (fun t' k' => XS.goto X4_.here hx rfl (pc0 := 41) (pc' := 3) rfl (hb hby d_jdk_52_method_21_41) (by decide) (by decide) k') ?_
  refine Runs.st (fun t' k' => XS.iload X4_.here hx rfl (hb hby d_jdk_52_method_21_3) rfl k') ?_
  show Runs p.tables e below _ (T4_.setTop (mkF m 5 #[.val (.ref a), .val (.int (2 : Int32)), .val (.ref b), .val (.int (2 : Int32)), .val (.int (4 : Int32)), .val (.int (2 : Int32)), .val (.int c1)] [(.int (2 : Int32))]))
  refine Runs.st (fun t' k' => XS.iload X4_.here hx rfl (hb hby d_jdk_52_method_21_5) rfl k') ?_
  refine Runs.st (fun t' k' => XS.icmpNo X4_.here hx rfl (hb hby d_jdk_52_method_21_7) rfl (tlt (by decide)).2.1 k') ?_
  show Runs p.tables e below _ (T4_.setTop (mkF m 10 #[.val (.ref a), .val (.int (2 : Int32)), .val (.ref b), .val (.int (2 : Int32)), .val (.int (4 : Int32)), .val (.int (2 : Int32)), .val (.int c1)] []))
  refine Runs.st (fun t' k' => XS.aloadN X4_.here hx rfl (hb hby d_jdk_52_method_21_10) rfl rfl k') ?_
  refine Runs.st (fun t' k' => XS.iloadN X4_.here hx rfl (hb hby d_jdk_52_method_21_11) rfl k') ?_
  obtain ⟨cl5_, Ar5_, -, S5_, M5_, Ha5_, -⟩ := id V_a
  have hin5_ : ¬ ((2 : Int32) < 0 ∨ cl5_.slots.size ≤ ((2 : Int32)).toNatClampNeg) := inb_of S5_ ⟨by decide, by decide⟩
  refine Runs.st (X4_.caload hx (j := (2 : Int32)) (v := (.int c2)) (by rw [e4_]; exact Ar5_.1) (State.isArrayOf_alike hZ.alike Ar5_.2.1) Ar5_.2.2 hin5_ (Ha5_.at hin5_ rfl) (g := (mkF m 12 #[.val (.ref a), .val (.int (2 : Int32)), .val (.ref b), .val (.int (2 : Int32)), .val (.int (4 : Int32)), .val (.int (2 : Int32)), .val (.int c1)] [(.int (2 : Int32)), (.ref a)])) rfl rfl (hb hby d_jdk_52_method_21_12)) ?_
  show Runs p.tables e below _ (T4_.setTop (mkF m 13 #[.val (.ref a), .val (.int (2 : Int32)), .val (.ref b), .val (.int (2 : Int32)), .val (.int (4 : Int32)), .val (.int (2 : Int32)), .val (.int c1)] [(.int c2)]))
  refine Runs.st (fun t' k' => XS.istore X4_.here hx rfl (hb hby d_jdk_52_method_21_13) rfl (l' := #[.val (.ref a), .val (.int (2 : Int32)), .val (.ref b), .val (.int (2 : Int32)), .val (.int (4 : Int32)), .val (.int (2 : Int32)), .val (.int c2)]) rfl k') ?_
  refine Runs.st (fun t' k' => XS.iload X4_.here hx rfl (hb hby d_jdk_52_method_21_15) rfl k') ?_
  refine Runs.st (fun t' k' => XS.sipush X4_.here hx rfl (hb hby d_jdk_52_method_21_17) k') ?_
  refine Runs.st (fun t' k' => XS.icmpYes X4_.here hx rfl (pc0 := 20) (pc' := 26) rfl (hb hby d_jdk_52_method_21_20) rfl (flt u2).2.2.2 (by decide) (by decide) k') ?_
  show Runs p.tables e below _ (T4_.setTop (mkF m 26 #[.val (.ref a), .val (.int (2 : Int32)), .val (.ref b), .val (.int (2 : Int32)), .val (.int (4 : Int32)), .val (.int (2 : Int32)), .val (.int c2)] []))
  refine Runs.st (fun t' k' => XS.aloadN X4_.here hx rfl (hb hby d_jdk_52_method_21_26) rfl rfl k') ?_
  refine Runs.st (fun t' k' => XS.iloadN X4_.here hx rfl (hb hby d_jdk_52_method_21_27) rfl k') ?_
  refine Runs.st (fun t' k' => XS.iload X4_.here hx rfl (hb hby d_jdk_52_method_21_28) rfl k') ?_
  refine Runs.st (fun t' k' => XS.i2b X4_.here hx rfl (hb hby d_jdk_52_method_21_30) rfl k') ?_
  obtain ⟨cl6_, Ar6_, q6_, S6_, M6_, Ha6_, G6_⟩ := V_b
  have hin6_ : ¬ ((2 : Int32) < 0 ∨ cl6_.slots.size ≤ ((2 : Int32)).toNatClampNeg) := inb_of S6_ ⟨by decide, by decide⟩
  obtain ⟨T6_, h6_, X6_, e6_, W6_, st6_⟩ := stB X4_ hx hZ e4_ Ar6_ (j := (2 : Int32)) hin6_ (g := (mkF m 31 #[.val (.ref a), .val (.int (2 : Int32)), .val (.ref b), .val (.int (2 : Int32)), .val (.int (4 : Int32)), .val (.int (2 : Int32)), .val (.int c2)] [(.int (c2.toInt8.toInt32)), (.int (2 : Int32)), (.ref b)])) rfl rfl (hb hby d_jdk_52_method_21_31)
  refine Runs.st (st6_) ?_
  have V_b := Arv.set Ar6_ q6_ S6_ M6_ Ha6_ G6_ (fits_nar_byte _) W6_ 2 rfl (Nat.le_of_ble_eq_true rfl)
  replace V_a := V_a.other W6_ ne_a_b
  replace sz := Nat.le_trans sz (Keep.of_wr W6_).1
  have N6_ := Fr.snoc X6_ N4_ g_b
  replace K := K.wr W6_ (Or.inl (List.mem_of_getElem? (i := 0) rfl))
  show Runs p.tables e below _ (T6_.setTop (mkF m 32 #[.val (.ref a), .val (.int (2 : Int32)), .val (.ref b), .val (.int (2 : Int32)), .val (.int (4 : Int32)), .val (.int (2 : Int32)), .val (.int c2)] []))
  refine Runs.st (fun t' k' => XS.iinc X6_.here hx rfl (hb hby d_jdk_52_method_21_32) rfl (l' := #[.val (.ref a), .val (.int ((2 : Int32) + (1 : Int32))), .val (.ref b), .val (.int (2 : Int32)), .val (.int (4 : Int32)), .val (.int (2 : Int32)), .val (.int c2)]) rfl k') ?_
  refine Runs.st (fun t' k' => XS.iinc X6_.here hx rfl (hb hby d_jdk_52_method_21_35) rfl (l' := #[.val (.ref a), .val (.int ((2 : Int32) + (1 : Int32))), .val (.ref b), .val (.int ((2 : Int32) + (1 : Int32))), .val (.int (4 : Int32)), .val (.int (2 : Int32)), .val (.int c2)]) rfl k') ?_
  refine Runs.st (fun t' k' => XS.iinc X6_.here hx rfl (hb hby d_jdk_52_method_21_38) rfl (l' := #[.val (.ref a), .val (.int ((2 : Int32) + (1 : Int32))), .val (.ref b), .val (.int ((2 : Int32) + (1 : Int32))), .val (.int (4 : Int32)), .val (.int ((2 : Int32) + (1 : Int32))), .val (.int c2)]) rfl k') ?_
  show Runs p.tables e below _ (T6_.setTop (mkF m 41 #[.val (.ref a), .val (.int ((2 : Int32) + (1 : Int32))), .val (.ref b), .val (.int ((2 : Int32) + (1 : Int32))), .val (.int (4 : Int32)), .val (.int ((2 : Int32) + (1 : Int32))), .val (.int c2)] []))
  rw [show ((2 : Int32) + (1 : Int32)) = (3 : Int32) from rfl]
  show Runs p.tables e below _ (T6_.setTop (mkF m 41 #[.val (.ref a), .val (.int (3 : Int32)), .val (.ref b), .val (.int (3 : Int32)), .val (.int (4 : Int32)), .val (.int (3 : Int32)), .val (.int c2)] []))
  refine Runs.st (fun t' k' => XS.goto X6_.here hx rfl (pc0 := 41) (pc' := 3) rfl (hb hby d_jdk_52_method_21_41) (by decide) (by decide) k') ?_
  refine Runs.st (fun t' k' => XS.iload X6_.here hx rfl (hb hby d_jdk_52_method_21_3) rfl k') ?_
  show Runs p.tables e below _ (T6_.setTop (mkF m 5 #[.val (.ref a), .val (.int (3 : Int32)), .val (.ref b), .val (.int (3 : Int32)), .val (.int (4 : Int32)), .val (.int (3 : Int32)), .val (.int c2)] [(.int (3 : Int32))]))
  refine Runs.st (fun t' k' => XS.iload X6_.here hx rfl (hb hby d_jdk_52_method_21_5) rfl k') ?_
  refine Runs.st (fun t' k' => XS.icmpNo X6_.here hx rfl (hb hby d_jdk_52_method_21_7) rfl (tlt (by decide)).2.1 k') ?_
  show Runs p.tables e below _ (T6_.setTop (mkF m 10 #[.val (.ref a), .val (.int (3 : Int32)), .val (.ref b), .val (.int (3 : Int32)), .val (.int (4 : Int32)), .val (.int (3 : Int32)), .val (.int c2)] []))
  refine Runs.st (fun t' k' => XS.aloadN X6_.here hx rfl (hb hby d_jdk_52_method_21_10) rfl rfl k') ?_
  refine Runs.st (fun t' k' => XS.iloadN X6_.here hx rfl (hb hby d_jdk_52_method_21_11) rfl k') ?_
  obtain ⟨cl7_, Ar7_, -, S7_, M7_, Ha7_, -⟩ := id V_a
  have hin7_ : ¬ ((3 : Int32) < 0 ∨ cl7_.slots.size ≤ ((3 : Int32)).toNatClampNeg) := inb_of S7_ ⟨by decide, by decide⟩
  refine Runs.st (X6_.caload hx (j := (3 : Int32)) (v := (.int c3)) (by rw [e6_]; exact Ar7_.1) (State.isArrayOf_alike hZ.alike Ar7_.2.1) Ar7_.2.2 hin7_ (Ha7_.at hin7_ rfl) (g := (mkF m 12 #[.val (.ref a), .val (.int (3 : Int32)), .val (.ref b), .val (.int (3 : Int32)), .val (.int (4 : Int32)), .val (.int (3 : Int32)), .val (.int c2)] [(.int (3 : Int32)), (.ref a)])) rfl rfl (hb hby d_jdk_52_method_21_12)) ?_
  show Runs p.tables e below _ (T6_.setTop (mkF m 13 #[.val (.ref a), .val (.int (3 : Int32)), .val (.ref b), .val (.int (3 : Int32)), .val (.int (4 : Int32)), .val (.int (3 : Int32)), .val (.int c2)] [(.int c3)]))
  refine Runs.st (fun t' k' => XS.istore X6_.here hx rfl (hb hby d_jdk_52_method_21_13) rfl (l' := #[.val (.ref a), .val (.int (3 : Int32)), .val (.ref b), .val (.int (3 : Int32)), .val (.int (4 : Int32)), .val (.int (3 : Int32)), .val (.int c3)]) rfl k') ?_
  refine Runs.st (fun t' k' => XS.iload X6_.here hx rfl (hb hby d_jdk_52_method_21_15) rfl k') ?_
  refine Runs.st (fun t' k' => XS.sipush X6_.here hx rfl (hb hby d_jdk_52_method_21_17) k') ?_
  refine Runs.st (fun t' k' => XS.icmpYes X6_.here hx rfl (pc0 := 20) (pc' := 26) rfl (hb hby d_jdk_52_method_21_20) rfl (flt u3).2.2.2 (by decide) (by decide) k') ?_
  show Runs p.tables e below _ (T6_.setTop (mkF m 26 #[.val (.ref a), .val (.int (3 : Int32)), .val (.ref b), .val (.int (3 : Int32)), .val (.int (4 : Int32)), .val (.int (3 : Int32)), .val (.int c3)] []))
  refine Runs.st (fun t' k' => XS.aloadN X6_.here hx rfl (hb hby d_jdk_52_method_21_26) rfl rfl k') ?_
  refine Runs.st (fun t' k' => XS.iloadN X6_.here hx rfl (hb hby d_jdk_52_method_21_27) rfl k') ?_
  refine Runs.st (fun t' k' => XS.iload X6_.here hx rfl (hb hby d_jdk_52_method_21_28) rfl k') ?_
  refine Runs.st (fun t' k' => XS.i2b X6_.here hx rfl (hb hby d_jdk_52_method_21_30) rfl k') ?_
  obtain ⟨cl8_, Ar8_, q8_, S8_, M8_, Ha8_, G8_⟩ := V_b
  have hin8_ : ¬ ((3 : Int32) < 0 ∨ cl8_.slots.size ≤ ((3 : Int32)).toNatClampNeg) := inb_of S8_ ⟨by decide, by decide⟩
  obtain ⟨T8_, h8_, X8_, e8_, W8_, st8_⟩ := stB X6_ hx hZ e6_ Ar8_ (j := (3 : Int32)) hin8_ (g := (mkF m 31 #[.val (.ref a), .val (.int (3 : Int32)), .val (.ref b), .val (.int (3 : Int32)), .val (.int (4 : Int32)), .val (.int (3 : Int32)), .val (.int c3)] [(.int (c3.toInt8.toInt32)), (.int (3 : Int32)), (.ref b)])) rfl rfl (hb hby d_jdk_52_method_21_31)
  refine Runs.st (st8_) ?_
  have V_b := Arv.set Ar8_ q8_ S8_ M8_ Ha8_ G8_ (fits_nar_byte _) W8_ 3 rfl (Nat.le_of_ble_eq_true rfl)
  replace V_a := V_a.other W8_ ne_a_b
  replace sz := Nat.le_trans sz (Keep.of_wr W8_).1
  have N8_ := Fr.snoc X8_ N6_ g_b
  replace K := K.wr W8_ (Or.inl (List.mem_of_getElem? (i := 0) rfl))
  show Runs p.tables e below _ (T8_.setTop (mkF m 32 #[.val (.ref a), .val (.int (3 : Int32)), .val (.ref b), .val (.int (3 : Int32)), .val (.int (4 : Int32)), .val (.int (3 : Int32)), .val (.int c3)] []))
  refine Runs.st (fun t' k' => XS.iinc X8_.here hx rfl (hb hby d_jdk_52_method_21_32) rfl (l' := #[.val (.ref a), .val (.int ((3 : Int32) + (1 : Int32))), .val (.ref b), .val (.int (3 : Int32)), .val (.int (4 : Int32)), .val (.int (3 : Int32)), .val (.int c3)]) rfl k') ?_
  refine Runs.st (fun t' k' => XS.iinc X8_.here hx rfl (hb hby d_jdk_52_method_21_35) rfl (l' := #[.val (.ref a), .val (.int ((3 : Int32) + (1 : Int32))), .val (.ref b), .val (.int ((3 : Int32) + (1 : Int32))), .val (.int (4 : Int32)), .val (.int (3 : Int32)), .val (.int c3)]) rfl k') ?_
  refine Runs.st (fun t' k' => XS.iinc X8_.here hx rfl (hb hby d_jdk_52_method_21_38) rfl (l' := #[.val (.ref a), .val (.int ((3 : Int32) + (1 : Int32))), .val (.ref b), .val (.int ((3 : Int32) + (1 : Int32))), .val (.int (4 : Int32)), .val (.int ((3 : Int32) + (1 : Int32))), .val (.int c3)]) rfl k') ?_
  show Runs p.tables e below _ (T8_.setTop (mkF m 41 #[.val (.ref a), .val (.int ((3 : Int32) + (1 : Int32))), .val (.ref b), .val (.int ((3 : Int32) + (1 : Int32))), .val (.int (4 : Int32)), .val (.int ((3 : Int32) + (1 : Int32))), .val (.int c3)] []))
  rw [show ((3 : Int32) + (1 : Int32)) = (4 : Int32) from rfl]
  show Runs p.tables e below _ (T8_.setTop (mkF m 41 #[.val (.ref a), .val (.int (4 : Int32)), .val (.ref b), .val (.int (4 : Int32)), .val (.int (4 : Int32)), .val (.int (4 : Int32)), .val (.int c3)] []))
  refine Runs.st (fun t' k' => XS.goto X8_.here hx rfl (pc0 := 41) (pc' := 3) rfl (hb hby d_jdk_52_method_21_41) (by decide) (by decide) k') ?_
  refine Runs.st (fun t' k' => XS.iload X8_.here hx rfl (hb hby d_jdk_52_method_21_3) rfl k') ?_
  show Runs p.tables e below _ (T8_.setTop (mkF m 5 #[.val (.ref a), .val (.int (4 : Int32)), .val (.ref b), .val (.int (4 : Int32)), .val (.int (4 : Int32)), .val (.int (4 : Int32)), .val (.int c3)] [(.int (4 : Int32))]))
  refine Runs.st (fun t' k' => XS.iload X8_.here hx rfl (hb hby d_jdk_52_method_21_5) rfl k') ?_
  refine Runs.st (fun t' k' => XS.icmpYes X8_.here hx rfl (pc0 := 7) (pc' := 44) rfl (hb hby d_jdk_52_method_21_7) rfl (flt (by decide)).2.1 (by decide) (by decide) k') ?_
  show Runs p.tables e below _ (T8_.setTop (mkF m 44 #[.val (.ref a), .val (.int (4 : Int32)), .val (.ref b), .val (.int (4 : Int32)), .val (.int (4 : Int32)), .val (.int (4 : Int32)), .val (.int c3)] []))
  refine Runs.st (fun t' k' => XS.iload X8_.here hx rfl (hb hby d_jdk_52_method_21_44) rfl k') ?_
  refine Runs.ret X8_ hlk (v := (some (.int (4 : Int32)))) (fun h => by rw [hret] at h; cases h) (by decide) (by decide) ?_ (fun fs hr => retI X8_ hx hret (hb hby d_jdk_52_method_21_46) hr)
  try rw [e8_]
  exact ⟨rfl, N8_, K, V_b⟩
def Q_rmCB4 (Z : State) (a : Addr) (c0 c1 c2 c3 : Int32) (k1 : ClassId) (h0 : Heap) (n0 : Nat) : Option Value → Heap → List Loc → Prop := (fun v h L => ∃ b k2, v = some (.ref b) ∧ Fr n0 L ∧ Keep h0 h [] ∧ h0.size ≤ b ∧ Arv Z h b k2 .byte (4 : Int32) [(.int (nar .byte (c0.toInt8.toInt32))), (.int (nar .byte (c1.toInt8.toInt32))), (.int (nar .byte (c2.toInt8.toInt32))), (.int (nar .byte (c3.toInt8.toInt32)))] (.int (0 : Int32)))
theorem ef_jdk_52_method_16_RII (m : MethodId) (x0 : Addr) (x1 : Int32) (x2 : Int32)  : entryFrame m #[(.ref x0), (.int x1), (.int x2)] 6 = mkF m 0 #[.val (.ref x0), .val (.int x1), .val (.int x2), .unset, .unset, .unset] [] := by first | (simp [entryFrame, mkF, argsToLocals, Value.category]; done) | rfl
theorem d_jdk_52_method_16_0 : decode jdk_52_method_16_code 0 = .ok (.iload_n 2, 1) := by decide +kernel
theorem d_jdk_52_method_16_1 : decode jdk_52_method_16_code 1 = .ok (.newarray .byte, 2) := by decide +kernel
theorem d_jdk_52_method_16_3 : decode jdk_52_method_16_code 3 = .ok (.astore_n 3, 1) := by decide +kernel
theorem d_jdk_52_method_16_4 : decode jdk_52_method_16_code 4 = .ok (.aload_n 0, 1) := by decide +kernel
theorem d_jdk_52_method_16_5 : decode jdk_52_method_16_code 5 = .ok (.iload_n 1, 1) := by decide +kernel
theorem d_jdk_52_method_16_6 : decode jdk_52_method_16_code 6 = .ok (.aload_n 3, 1) := by decide +kernel
theorem d_jdk_52_method_16_7 : decode jdk_52_method_16_code 7 = .ok (.iconst 0, 1) := by decide +kernel
theorem d_jdk_52_method_16_8 : decode jdk_52_method_16_code 8 = .ok (.iload_n 2, 1) := by decide +kernel
theorem pd__28_5bCI_5bBII_29I : parseMethodDescriptor "([CI[BII)I" = some ⟨[(.array .char), .int, (.array .byte), .int, .int], some .int⟩ := by decide +kernel
theorem d_jdk_52_method_16_9 : decode jdk_52_method_16_code 9 = .ok (.invokestatic 115, 3) := by decide +kernel
theorem d_jdk_52_method_16_12 : decode jdk_52_method_16_code 12 = .ok (.istore 4, 2) := by decide +kernel
theorem d_jdk_52_method_16_14 : decode jdk_52_method_16_code 14 = .ok (.iload 4, 2) := by decide +kernel
theorem d_jdk_52_method_16_16 : decode jdk_52_method_16_code 16 = .ok (.iload_n 2, 1) := by decide +kernel
theorem d_jdk_52_method_16_17 : decode jdk_52_method_16_code 17 = .ok (.if_icmp .eq 40, 3) := by decide +kernel
theorem d_jdk_52_method_16_57 : decode jdk_52_method_16_code 57 = .ok (.aload_n 3, 1) := by decide +kernel
theorem d_jdk_52_method_16_58 : decode jdk_52_method_16_code 58 = .ok (.areturn, 1) := by decide +kernel
set_option maxRecDepth 65536 in
set_option maxHeartbeats 40000000 in
theorem rmCB4 (l : Launch) (Z : State) (a0 : Array Value) (hw : ∀ d ∈ tables_1, d.before a0 Z = true) (ws : List Jvm.Cond) (a : Addr) (c0 c1 c2 c3 : Int32) (k1 : ClassId) (h0 : Heap) (n0 : Nat) (Z0 : n0 ≤ h0.size) (V_a : Arv Z h0 a k1 .char (4 : Int32) [(.int c0), (.int c1), (.int c2), (.int c3)] (.int (0 : Int32))) (u0 : ¬ ((255 : Int32) < c0)) (u1 : ¬ ((255 : Int32) < c1)) (u2 : ¬ ((255 : Int32) < c2)) (u3 : ¬ ((255 : Int32) < c3)) :
    MetFree l (⟨"java/lang/StringUTF16", "compress", "([CII)[B"⟩ : MethodName) (head1 (Jvm.Cond.code (⟨"java/lang/StringUTF16", "compress", "([CII)[B"⟩ : MethodName) jdk_52_method_16_code 6 (some (.array .byte)) :: ws) ({ frames := 1, cells := 1, slots := 4, locals := 18 } : Room)) (fun ar_ U => ar_ = #[(.ref a), (.int (0 : Int32)), (.int (4 : Int32))] ∧ Z.Warmed39 U.vm ∧ U.heap = h0) (fun _ _ _ _ _ => True) (fun _ U o U' => Phi U (Q_rmCB4 Z a c0 c1 c2 c3 k1 h0 n0) ({ frames := 1, cells := 1, slots := 4, locals := 18 } : Room).cells ({ frames := 1, cells := 1, slots := 4, locals := 18 } : Room).slots o U') := by
  refine MetFree.of_bodySF (plainFor_of_name pn_java_lang_StringUTF16) hisR ?_
  intro p e s m args below meth c s₁ Bd hml0 hP hK
  obtain ⟨rfl, hZ, hh⟩ := hP
  have hx := Bd.exec
  have hby := Bd.bytes
  have hlk := Bd.notSynchronized
  have hml : c.maxLocals = 6 := hml0
  have hown : s.vm.findClass "java/lang/StringUTF16" = some m.cls := findClass_of_methodNamed Bd.named
  have hown0 := hown
  have hnm := (name_of_methodNamed Bd.named Bd.method).1
  have hret := Bd.returns
  have X0 : Stand p l e ({ frames := 1, cells := 1, slots := 4, locals := 18 } : Room) s m #[(.ref a), (.int (0 : Int32)), (.int (4 : Int32))] below meth c s₁ [] 0 0 := Stand.of_body Bd
  have e0 : s₁.heap = h0 := by rw [← hh, Bd.state]; rfl
  have N0 := Fr.nil n0
  have sz := Z0
  have K := Keep.refl h0 []
  show Runs p.tables e below (Phi s (Q_rmCB4 Z a c0 c1 c2 c3 k1 h0 n0) ({ frames := 1, cells := 1, slots := 4, locals := 18 } : Room).cells ({ frames := 1, cells := 1, slots := 4, locals := 18 } : Room).slots) _
  refine Runs.st (fun t' k' => castTop (ef_jdk_52_method_16_RII m a (0 : Int32) (4 : Int32) ) k') ?_
  show Runs p.tables e below _ (s₁.setTop (mkF m 0 #[.val (.ref a), .val (.int (0 : Int32)), .val (.int (4 : Int32)), .unset, .unset, .unset] []))
  refine Runs.st (fun t' k' => XS.iloadN X0.here hx rfl (hb hby d_jdk_52_method_16_0) rfl k') ?_
  obtain ⟨T1_, h1_, k1_, X1_, e1_, E1_, A1_, st1_⟩ := newP X0 hx hZ (hw _ (List.mem_of_getElem? (i := 20) rfl)) e0 (g := (mkF m 1 #[.val (.ref a), .val (.int (0 : Int32)), .val (.int (4 : Int32)), .unset, .unset, .unset] [(.int (4 : Int32))])) rfl (hb hby d_jdk_52_method_16_1) rfl (by decide) (cap := 4) (by decide) (by decide) (by decide) (by decide)
  refine Runs.st (st1_) ?_
  obtain ⟨b, g1_⟩ : ∃ z, z = h0.size := ⟨_, rfl⟩
  rw [← g1_] at A1_
  try rw [← g1_]
  have g_b : n0 ≤ b := Nat.le_trans sz (Nat.le_of_eq g1_.symm)
  have sz_b : h0.size ≤ b := Nat.le_trans K.1 (Nat.le_of_eq g1_.symm)
  have ne_a_b : a ≠ b := Nat.ne_of_lt (Nat.lt_of_lt_of_le V_a.lt (Nat.le_of_eq g1_.symm))
  replace V_a := V_a.ext E1_
  replace sz := Nat.le_trans sz E1_.1
  replace K := K.ext E1_
  have V_b : Arv Z h1_ b k1_ .byte (4 : Int32) [(.int (0 : Int32)), (.int (0 : Int32)), (.int (0 : Int32)), (.int (0 : Int32))] (.int (0 : Int32)) := (Arv.new A1_ (by decide)).pad (pad_rep [] (.int (0 : Int32)) 4)
  show Runs p.tables e below _ (T1_.setTop (mkF m 3 #[.val (.ref a), .val (.int (0 : Int32)), .val (.int (4 : Int32)), .unset, .unset, .unset] [(.ref b)]))
  refine Runs.st (fun t' k' => XS.astoreN X1_.here hx rfl (hb hby d_jdk_52_method_16_3) rfl rfl (l' := #[.val (.ref a), .val (.int (0 : Int32)), .val (.int (4 : Int32)), .val (.ref b), .unset, .unset]) rfl k') ?_
  refine Runs.st (fun t' k' => XS.aloadN X1_.here hx rfl (hb hby d_jdk_52_method_16_4) rfl rfl k') ?_
  refine Runs.st (fun t' k' => XS.iloadN X1_.here hx rfl (hb hby d_jdk_52_method_16_5) rfl k') ?_
  refine Runs.st (fun t' k' => XS.aloadN X1_.here hx rfl (hb hby d_jdk_52_method_16_6) rfl rfl k') ?_
  refine Runs.st (fun t' k' => XS.iconst X1_.here hx rfl (hb hby d_jdk_52_method_16_7) k') ?_
  show Runs p.tables e below _ (T1_.setTop (mkF m 8 #[.val (.ref a), .val (.int (0 : Int32)), .val (.int (4 : Int32)), .val (.ref b), .unset, .unset] [(.int (0 : Int32)), (.ref b), (.int (0 : Int32)), (.ref a)]))
  refine Runs.st (fun t' k' => XS.iloadN X1_.here hx rfl (hb hby d_jdk_52_method_16_8) rfl k') ?_
  obtain ⟨_, _, ⟨T2_, L2_, k2_, n2_⟩, -, X2_, ⟨Lc2_, hQ2_, l2_, y2_, z2_⟩, st2_⟩ := Jvm.LawKit.callS X1_ hx (y := (⟨"java/lang/StringUTF16", "compress", "([CI[BII)I"⟩ : MethodName)) hown (mvT hZ (hw _ (List.mem_of_getElem? (i := 21) rfl))) (mvT hZ (hw _ (List.mem_of_getElem? (i := 22) rfl))) (mvT hZ (hw _ (List.mem_of_getElem? (i := 18) rfl))) (mvT hZ (hw _ (List.mem_of_getElem? (i := 23) rfl))) (by decide) (backOf (W := 0) (rmCA4 l Z a0 hw [] a b c0 c1 c2 c3 k1 _ h1_ n0 sz V_a V_b ne_a_b g_b u0 u1 u2 u3) hZ (hw _ (List.mem_of_getElem? (i := 23) rfl)) (hw _ (List.mem_of_getElem? (i := 18) rfl)) (by decide) (by decide)) (g := (mkF m 9 #[.val (.ref a), .val (.int (0 : Int32)), .val (.int (4 : Int32)), .val (.ref b), .unset, .unset] [(.int (4 : Int32)), (.int (0 : Int32)), (.ref b), (.int (0 : Int32)), (.ref a)])) rfl (by rw [hml]; rfl) (argsL := [(.ref a), (.int (0 : Int32)), (.ref b), (.int (0 : Int32)), (.int (4 : Int32))]) (rest := []) (lenOf pd__28_5bCI_5bBII_29I rfl) rfl (by show 2 * 0 + _ ≤ _; exact Nat.le_of_eq rfl) (hb hby d_jdk_52_method_16_9) (fun _ _ => ⟨rfl, e1_, (by decide : 1 + 0 ≤ _), (by decide : 4 + 0 ≤ _)⟩)
  dsimp only [Pt.U, Pt.locs, Pt.cells, Pt.slots] at X2_ l2_ y2_ z2_ st2_ hQ2_
  subst l2_ y2_ z2_
  obtain ⟨rfl, N2_q, K2_, V_b⟩ := hQ2_
  have N2_ := Fr.app N0 N2_q
  refine Runs.st (st2_) ?_
  replace X2_ := wider X2_ (c' := 1) (s' := 4) (by decide) (by decide)
  replace V_a := V_a.keep K2_ (ninS ne_a_b nin0)
  replace sz := Nat.le_trans sz K2_.1
  replace K := K.trans K2_ (allS (Or.inr sz_b) all0)
  show Runs p.tables e below _ (T2_.setTop (mkF m 12 #[.val (.ref a), .val (.int (0 : Int32)), .val (.int (4 : Int32)), .val (.ref b), .unset, .unset] [(.int (4 : Int32))]))
  refine Runs.st (fun t' k' => XS.istore X2_.here hx rfl (hb hby d_jdk_52_method_16_12) rfl (l' := #[.val (.ref a), .val (.int (0 : Int32)), .val (.int (4 : Int32)), .val (.ref b), .val (.int (4 : Int32)), .unset]) rfl k') ?_
  refine Runs.st (fun t' k' => XS.iload X2_.here hx rfl (hb hby d_jdk_52_method_16_14) rfl k') ?_
  refine Runs.st (fun t' k' => XS.iloadN X2_.here hx rfl (hb hby d_jdk_52_method_16_16) rfl k') ?_
  refine Runs.st (fun t' k' => XS.icmpYes X2_.here hx rfl (pc0 := 17) (pc' := 57) rfl (hb hby d_jdk_52_method_16_17) rfl (teq rfl).1 (by decide) (by decide) k') ?_
  show Runs p.tables e below _ (T2_.setTop (mkF m 57 #[.val (.ref a), .val (.int (0 : Int32)), .val (.int (4 : Int32)), .val (.ref b), .val (.int (4 : Int32)), .unset] []))
  refine Runs.st (fun t' k' => XS.aloadN X2_.here hx rfl (hb hby d_jdk_52_method_16_57) rfl rfl k') ?_
  refine Runs.ret X2_ hlk (v := (some (.ref b))) (fun h => by rw [hret] at h; cases h) (by decide) (by decide) ?_ (fun fs hr => retOut X2_ hx hret rfl (Or.inr (Or.inr (Or.inr (Or.inr ⟨rfl, rfl, rfl⟩)))) (hb hby d_jdk_52_method_16_58) hr)
  exact ⟨b, _, rfl, N2_, K, sz_b, V_b⟩
def Q_rmCd4 (Z : State) (b : Addr) (k2 : ClassId) (vs : List Value) (h0 : Heap) (n0 : Nat) : Option Value → Heap → List Loc → Prop := (fun v h L => v = some (.int (0 : Int32)) ∧ Fr n0 L ∧ h = h0)
theorem ef_jdk_52_method_15_RI (m : MethodId) (x0 : Addr) (x1 : Int32)  : entryFrame m #[(.ref x0), (.int x1)] 2 = mkF m 0 #[.val (.ref x0), .val (.int x1)] [] := by first | (simp [entryFrame, mkF, argsToLocals, Value.category]; done) | rfl
theorem d_jdk_52_method_15_0 : decode jdk_52_method_15_code 0 = .ok (.iload_n 1, 1) := by decide +kernel
theorem d_jdk_52_method_15_1 : decode jdk_52_method_15_code 1 = .ok (.aload_n 0, 1) := by decide +kernel
theorem d_jdk_52_method_15_2 : decode jdk_52_method_15_code 2 = .ok (.arraylength, 1) := by decide +kernel
theorem d_jdk_52_method_15_3 : decode jdk_52_method_15_code 3 = .ok (.isub, 1) := by decide +kernel
theorem d_jdk_52_method_15_4 : decode jdk_52_method_15_code 4 = .ok (.bipush 31, 2) := by decide +kernel
theorem d_jdk_52_method_15_6 : decode jdk_52_method_15_code 6 = .ok (.iushr, 1) := by decide +kernel
theorem d_jdk_52_method_15_7 : decode jdk_52_method_15_code 7 = .ok (.i2b, 1) := by decide +kernel
theorem d_jdk_52_method_15_8 : decode jdk_52_method_15_code 8 = .ok (.ireturn, 1) := by decide +kernel
set_option maxRecDepth 65536 in
set_option maxHeartbeats 40000000 in
theorem rmCd4 (l : Launch) (Z : State) (a0 : Array Value) (hw : ∀ d ∈ tables_1, d.before a0 Z = true) (ws : List Jvm.Cond) (b : Addr) (k2 : ClassId) (vs : List Value) (h0 : Heap) (n0 : Nat) (Z0 : n0 ≤ h0.size) (V_b : Arv Z h0 b k2 .byte (4 : Int32) vs (.int (0 : Int32))) :
    MetFree l (⟨"java/lang/StringUTF16", "coderFromArrayLen", "([BI)B"⟩ : MethodName) (head1 (Jvm.Cond.code (⟨"java/lang/StringUTF16", "coderFromArrayLen", "([BI)B"⟩ : MethodName) jdk_52_method_15_code 2 (some .byte) :: ws) ({ frames := 0, cells := 0, slots := 0, locals := 0 } : Room)) (fun ar_ U => ar_ = #[(.ref b), (.int (4 : Int32))] ∧ Z.Warmed39 U.vm ∧ U.heap = h0) (fun _ _ _ _ _ => True) (fun _ U o U' => Phi U (Q_rmCd4 Z b k2 vs h0 n0) ({ frames := 0, cells := 0, slots := 0, locals := 0 } : Room).cells ({ frames := 0, cells := 0, slots := 0, locals := 0 } : Room).slots o U') := by
  refine MetFree.of_bodySF (plainFor_of_name pn_java_lang_StringUTF16) hisR ?_
  intro p e s m args below meth c s₁ Bd hml0 hP hK
  obtain ⟨rfl, hZ, hh⟩ := hP
  have hx := Bd.exec
  have hby := Bd.bytes
  have hlk := Bd.notSynchronized
  have hml : c.maxLocals = 2 := hml0
  have hown : s.vm.findClass "java/lang/StringUTF16" = some m.cls := findClass_of_methodNamed Bd.named
  have hown0 := hown
  have hnm := (name_of_methodNamed Bd.named Bd.method).1
  have hret := Bd.returns
  have X0 : Stand p l e ({ frames := 0, cells := 0, slots := 0, locals := 0 } : Room) s m #[(.ref b), (.int (4 : Int32))] below meth c s₁ [] 0 0 := Stand.of_body Bd
  have e0 : s₁.heap = h0 := by rw [← hh, Bd.state]; rfl
  have N0 := Fr.nil n0
  have sz := Z0
  have K := Keep.refl h0 []
  show Runs p.tables e below (Phi s (Q_rmCd4 Z b k2 vs h0 n0) ({ frames := 0, cells := 0, slots := 0, locals := 0 } : Room).cells ({ frames := 0, cells := 0, slots := 0, locals := 0 } : Room).slots) _
  refine Runs.st (fun t' k' => castTop (ef_jdk_52_method_15_RI m b (4 : Int32) ) k') ?_
  show Runs p.tables e below _ (s₁.setTop (mkF m 0 #[.val (.ref b), .val (.int (4 : Int32))] []))
  refine Runs.st (fun t' k' => XS.iloadN X0.here hx rfl (hb hby d_jdk_52_method_15_0) rfl k') ?_
  refine Runs.st (fun t' k' => XS.aloadN X0.here hx rfl (hb hby d_jdk_52_method_15_1) rfl rfl k') ?_
  obtain ⟨cl1_, Ar1_, -, S1_, M1_, -, -⟩ := id V_b
  refine Runs.st (X0.arraylength hx (by rw [e0]; exact Ar1_.1) (State.isArrayOf_alike hZ.alike Ar1_.2.1) (g := (mkF m 2 #[.val (.ref b), .val (.int (4 : Int32))] [(.ref b), (.int (4 : Int32))])) rfl rfl (hb hby d_jdk_52_method_15_2)) ?_
  rw [len_of S1_ M1_]
  show Runs p.tables e below _ (s₁.setTop (mkF m 3 #[.val (.ref b), .val (.int (4 : Int32))] [(.int (4 : Int32)), (.int (4 : Int32))]))
  refine Runs.st (fun t' k' => XS.isub X0.here hx rfl (hb hby d_jdk_52_method_15_3) rfl k') ?_
  refine Runs.st (fun t' k' => XS.bipush X0.here hx rfl (hb hby d_jdk_52_method_15_4) k') ?_
  refine Runs.st (fun t' k' => XS.iushr X0.here hx rfl (hb hby d_jdk_52_method_15_6) rfl k') ?_
  refine Runs.st (fun t' k' => XS.i2b X0.here hx rfl (hb hby d_jdk_52_method_15_7) rfl k') ?_
  refine Runs.ret X0 hlk (v := (some (.int (nar .byte (((((4 : Int32) - (4 : Int32)).toUInt32 >>> ((31 : Int32) &&& 31).toUInt32).toInt32).toInt8.toInt32))))) (fun h => by rw [hret] at h; cases h) (by decide) (by decide) ?_ (fun fs hr => retN X0 hx (t := .byte) hret (by simp) (hb hby d_jdk_52_method_15_8) hr)
  try rw [e0]
  exact ⟨congrArg (fun z => some (Value.int z)) (by decide), N0, rfl⟩
def Q_rmID4 (Z : State) (a : Addr) (d : Addr) (c0 c1 c2 c3 : Int32) (k1 : ClassId) (zc : Int32) (h0 : Heap) (n0 : Nat) : Option Value → Heap → List Loc → Prop := (fun v h L => v = none ∧ Fr n0 L ∧ Keep h0 h [a] ∧ Exa Z h a "java/lang/String" ∧ Fld Z h a "java/lang/String" "coder" "B" (.int (0 : Int32)) ∧ ∃ b k2, h0.size ≤ b ∧ Fld Z h a "java/lang/String" "value" "[B" (.ref b) ∧ Arv Z h b k2 .byte (4 : Int32) [(.int (nar .byte (c0.toInt8.toInt32))), (.int (nar .byte (c1.toInt8.toInt32))), (.int (nar .byte (c2.toInt8.toInt32))), (.int (nar .byte (c3.toInt8.toInt32)))] (.int (0 : Int32)))
theorem d_jdk_42_method_149_27 : decode jdk_42_method_149_code 27 = .ok (.getstatic 38, 3) := by decide +kernel
theorem d_jdk_42_method_149_30 : decode jdk_42_method_149_code 30 = .ok (.ifCond .eq 28, 3) := by decide +kernel
theorem d_jdk_42_method_149_33 : decode jdk_42_method_149_code 33 = .ok (.aload_n 1, 1) := by decide +kernel
theorem d_jdk_42_method_149_34 : decode jdk_42_method_149_code 34 = .ok (.iload_n 2, 1) := by decide +kernel
theorem d_jdk_42_method_149_35 : decode jdk_42_method_149_code 35 = .ok (.iload_n 3, 1) := by decide +kernel
theorem pd__28_5bCII_29_5bB : parseMethodDescriptor "([CII)[B" = some ⟨[(.array .char), .int, .int], some (.array .byte)⟩ := by decide +kernel
theorem d_jdk_42_method_149_36 : decode jdk_42_method_149_code 36 = .ok (.invokestatic 177, 3) := by decide +kernel
theorem d_jdk_42_method_149_39 : decode jdk_42_method_149_code 39 = .ok (.astore 5, 2) := by decide +kernel
theorem d_jdk_42_method_149_41 : decode jdk_42_method_149_code 41 = .ok (.aload_n 0, 1) := by decide +kernel
theorem d_jdk_42_method_149_42 : decode jdk_42_method_149_code 42 = .ok (.aload 5, 2) := by decide +kernel
theorem d_jdk_42_method_149_44 : decode jdk_42_method_149_code 44 = .ok (.iload_n 3, 1) := by decide +kernel
theorem pd__28_5bBI_29B : parseMethodDescriptor "([BI)B" = some ⟨[(.array .byte), .int], some .byte⟩ := by decide +kernel
theorem d_jdk_42_method_149_45 : decode jdk_42_method_149_code 45 = .ok (.invokestatic 47, 3) := by decide +kernel
theorem d_jdk_42_method_149_48 : decode jdk_42_method_149_code 48 = .ok (.putfield 15, 3) := by decide +kernel
theorem d_jdk_42_method_149_51 : decode jdk_42_method_149_code 51 = .ok (.aload_n 0, 1) := by decide +kernel
theorem d_jdk_42_method_149_52 : decode jdk_42_method_149_code 52 = .ok (.aload 5, 2) := by decide +kernel
theorem d_jdk_42_method_149_54 : decode jdk_42_method_149_code 54 = .ok (.putfield 9, 3) := by decide +kernel
theorem d_jdk_42_method_149_57 : decode jdk_42_method_149_code 57 = .ok (.return_, 1) := by decide +kernel
set_option maxRecDepth 65536 in
set_option maxHeartbeats 40000000 in
theorem rmID4 (l : Launch) (Z : State) (a0 : Array Value) (hw : ∀ d ∈ tables_1, d.before a0 Z = true) (ws : List Jvm.Cond) (a : Addr) (d : Addr) (c0 c1 c2 c3 : Int32) (k1 : ClassId) (zc : Int32) (h0 : Heap) (n0 : Nat) (Z0 : n0 ≤ h0.size) (E_a : Exa Z h0 a "java/lang/String") (F_v : Fld Z h0 a "java/lang/String" "value" "[B" .null) (F_c : Fld Z h0 a "java/lang/String" "coder" "B" (.int (0 : Int32))) (g_a : n0 ≤ a) (V_d : Arv Z h0 d k1 .char (4 : Int32) [(.int c0), (.int c1), (.int c2), (.int c3)] (.int (0 : Int32))) (Sc : Sta Z h0 "java/lang/String" "COMPACT_STRINGS" "Z" (.int zc)) (hzc : ¬ zc = 0) (u0 : ¬ ((255 : Int32) < c0)) (u1 : ¬ ((255 : Int32) < c1)) (u2 : ¬ ((255 : Int32) < c2)) (u3 : ¬ ((255 : Int32) < c3)) :
    MetFree l (⟨"java/lang/String", "<init>", "([CIILjava/lang/Void;)V"⟩ : MethodName) (head1 (Jvm.Cond.code (⟨"java/lang/String", "<init>", "([CIILjava/lang/Void;)V"⟩ : MethodName) jdk_42_method_149_code 6 none :: ws) ({ frames := 2, cells := 1, slots := 4, locals := 35 } : Room)) (fun ar_ U => ar_ = #[(.ref a), (.ref d), (.int (0 : Int32)), (.int (4 : Int32)), .null] ∧ Z.Warmed39 U.vm ∧ U.heap = h0) (fun _ _ _ _ _ => True) (fun _ U o U' => Phi U (Q_rmID4 Z a d c0 c1 c2 c3 k1 zc h0 n0) ({ frames := 2, cells := 1, slots := 4, locals := 35 } : Room).cells ({ frames := 2, cells := 1, slots := 4, locals := 35 } : Room).slots o U') := by
  refine MetFree.of_bodySF (plainFor_of_name pn_java_lang_String) hisR ?_
  intro p e s m args below meth c s₁ Bd hml0 hP hK
  obtain ⟨rfl, hZ, hh⟩ := hP
  have hx := Bd.exec
  have hby := Bd.bytes
  have hlk := Bd.notSynchronized
  have hml : c.maxLocals = 6 := hml0
  have hown : s.vm.findClass "java/lang/String" = some m.cls := findClass_of_methodNamed Bd.named
  have hown0 := hown
  have hnm := (name_of_methodNamed Bd.named Bd.method).1
  have hret := Bd.returns
  have X0 : Stand p l e ({ frames := 2, cells := 1, slots := 4, locals := 35 } : Room) s m #[(.ref a), (.ref d), (.int (0 : Int32)), (.int (4 : Int32)), .null] below meth c s₁ [] 0 0 := Stand.of_body Bd
  have e0 : s₁.heap = h0 := by rw [← hh, Bd.state]; rfl
  have N0 := Fr.nil n0
  have sz := Z0
  have K := Keep.refl h0 [a]
  show Runs p.tables e below (Phi s (Q_rmID4 Z a d c0 c1 c2 c3 k1 zc h0 n0) ({ frames := 2, cells := 1, slots := 4, locals := 35 } : Room).cells ({ frames := 2, cells := 1, slots := 4, locals := 35 } : Room).slots) _
  refine Runs.st (fun t' k' => castTop (ef_jdk_42_method_149_RRIIN m a d (0 : Int32) (4 : Int32) ) k') ?_
  show Runs p.tables e below _ (s₁.setTop (mkF m 0 #[.val (.ref a), .val (.ref d), .val (.int (0 : Int32)), .val (.int (4 : Int32)), .val .null, .unset] []))
  refine Runs.st (fun t' k' => XS.aloadN X0.here hx rfl (hb hby d_jdk_42_method_149_0) rfl rfl k') ?_
  obtain ⟨T1_, X1_, e1_, st1_⟩ := initO X0 hx hZ hown (hw _ (List.mem_of_getElem? (i := 12) rfl)) (hw _ (List.mem_of_getElem? (i := 13) rfl)) (hw _ (List.mem_of_getElem? (i := 14) rfl)) e0 (g := (mkF m 1 #[.val (.ref a), .val (.ref d), .val (.int (0 : Int32)), .val (.int (4 : Int32)), .val .null, .unset] [(.ref a)])) rfl (by rw [hml]; rfl) rfl (hb hby d_jdk_42_method_149_1) (by decide) (W := 0) (by show 2 * 0 + _ ≤ _; exact Nat.le_of_eq rfl) (by decide)
  refine Runs.st (st1_) ?_
  show Runs p.tables e below _ (T1_.setTop (mkF m 4 #[.val (.ref a), .val (.ref d), .val (.int (0 : Int32)), .val (.int (4 : Int32)), .val .null, .unset] []))
  refine Runs.st (fun t' k' => XS.iloadN X1_.here hx rfl (hb hby d_jdk_42_method_149_4) rfl k') ?_
  refine Runs.st (fun t' k' => XS.ifYes X1_.here hx rfl (pc0 := 5) (pc' := 27) rfl (hb hby d_jdk_42_method_149_5) rfl ((if0 _ _).trans (feq (by decide)).2) (by decide) (by decide) k') ?_
  show Runs p.tables e below _ (T1_.setTop (mkF m 27 #[.val (.ref a), .val (.ref d), .val (.int (0 : Int32)), .val (.int (4 : Int32)), .val .null, .unset] []))
  obtain ⟨T2_, X2_, e2_, st2_⟩ := getS2 X1_ hx hZ hown (host := "") (Or.inl (hw _ (List.mem_of_getElem? (i := 15) rfl))) Via.refl e1_ Sc (g := (mkF m 27 #[.val (.ref a), .val (.ref d), .val (.int (0 : Int32)), .val (.int (4 : Int32)), .val .null, .unset] [])) rfl (hb hby d_jdk_42_method_149_27)
  refine Runs.st (st2_) ?_
  show Runs p.tables e below _ (T2_.setTop (mkF m 30 #[.val (.ref a), .val (.ref d), .val (.int (0 : Int32)), .val (.int (4 : Int32)), .val .null, .unset] [(.int zc)]))
  refine Runs.st (fun t' k' => XS.ifNo X2_.here hx rfl (hb hby d_jdk_42_method_149_30) rfl ((if0 _ _).trans (feq hzc).1) k') ?_
  show Runs p.tables e below _ (T2_.setTop (mkF m 33 #[.val (.ref a), .val (.ref d), .val (.int (0 : Int32)), .val (.int (4 : Int32)), .val .null, .unset] []))
  refine Runs.st (fun t' k' => XS.aloadN X2_.here hx rfl (hb hby d_jdk_42_method_149_33) rfl rfl k') ?_
  refine Runs.st (fun t' k' => XS.iloadN X2_.here hx rfl (hb hby d_jdk_42_method_149_34) rfl k') ?_
  refine Runs.st (fun t' k' => XS.iloadN X2_.here hx rfl (hb hby d_jdk_42_method_149_35) rfl k') ?_
  have kz3_ := K.1
  have gz3_ := sz
  have lt3__a := E_a.lt
  obtain ⟨_, _, ⟨T3_, L3_, k3_, n3_⟩, -, X3_, ⟨Lc3_, hQ3_, l3_, y3_, z3_⟩, st3_⟩ := Jvm.LawKit.callS X2_ hx (y := (⟨"java/lang/StringUTF16", "compress", "([CII)[B"⟩ : MethodName)) hown (mvT hZ (hw _ (List.mem_of_getElem? (i := 16) rfl))) (mvT hZ (hw _ (List.mem_of_getElem? (i := 17) rfl))) (mvT hZ (hw _ (List.mem_of_getElem? (i := 18) rfl))) (mvT hZ (hw _ (List.mem_of_getElem? (i := 19) rfl))) (by decide) (backOf (W := 0) (rmCB4 l Z a0 hw [] d c0 c1 c2 c3 k1 h0 n0 sz V_d u0 u1 u2 u3) hZ (hw _ (List.mem_of_getElem? (i := 19) rfl)) (hw _ (List.mem_of_getElem? (i := 18) rfl)) (by decide) (by decide)) (g := (mkF m 36 #[.val (.ref a), .val (.ref d), .val (.int (0 : Int32)), .val (.int (4 : Int32)), .val .null, .unset] [(.int (4 : Int32)), (.int (0 : Int32)), (.ref d)])) rfl (by rw [hml]; rfl) (argsL := [(.ref d), (.int (0 : Int32)), (.int (4 : Int32))]) (rest := []) (lenOf pd__28_5bCII_29_5bB rfl) rfl (by show 2 * 0 + _ ≤ _; exact Nat.le_of_eq rfl) (hb hby d_jdk_42_method_149_36) (fun _ _ => ⟨rfl, e2_, (by decide : 0 + 1 ≤ _), (by decide : 0 + 4 ≤ _)⟩)
  dsimp only [Pt.U, Pt.locs, Pt.cells, Pt.slots] at X3_ l3_ y3_ z3_ st3_ hQ3_
  subst l3_ y3_ z3_
  obtain ⟨b, k2, rfl, N3_q, K3_, szb, V_b⟩ := hQ3_
  have N3_ := Fr.app N0 N3_q
  refine Runs.st (st3_) ?_
  replace X3_ := wider X3_ (c' := 1) (s' := 4) (by decide) (by decide)
  replace E_a := E_a.keep K3_
  replace F_v := F_v.keep K3_ nin0
  replace F_c := F_c.keep K3_ nin0
  replace sz := Nat.le_trans sz K3_.1
  replace K := K.trans K3_ all0
  have sz_b : h0.size ≤ b := Nat.le_trans kz3_ szb
  have g_b : n0 ≤ b := Nat.le_trans gz3_ szb
  have ne_a_b : a ≠ b := Nat.ne_of_lt (Nat.lt_of_lt_of_le lt3__a szb)
  show Runs p.tables e below _ (T3_.setTop (mkF m 39 #[.val (.ref a), .val (.ref d), .val (.int (0 : Int32)), .val (.int (4 : Int32)), .val .null, .unset] [(.ref b)]))
  refine Runs.st (fun t' k' => XS.astore X3_.here hx rfl (hb hby d_jdk_42_method_149_39) rfl rfl (l' := #[.val (.ref a), .val (.ref d), .val (.int (0 : Int32)), .val (.int (4 : Int32)), .val .null, .val (.ref b)]) rfl k') ?_
  refine Runs.st (fun t' k' => XS.aloadN X3_.here hx rfl (hb hby d_jdk_42_method_149_41) rfl rfl k') ?_
  refine Runs.st (fun t' k' => XS.aload X3_.here hx rfl (hb hby d_jdk_42_method_149_42) rfl rfl k') ?_
  refine Runs.st (fun t' k' => XS.iloadN X3_.here hx rfl (hb hby d_jdk_42_method_149_44) rfl k') ?_
  obtain ⟨_, _, ⟨T4_, L4_, k4_, n4_⟩, -, X4_, ⟨Lc4_, hQ4_, l4_, y4_, z4_⟩, st4_⟩ := Jvm.LawKit.callS X3_ hx (y := (⟨"java/lang/StringUTF16", "coderFromArrayLen", "([BI)B"⟩ : MethodName)) hown (mvT hZ (hw _ (List.mem_of_getElem? (i := 24) rfl))) (mvT hZ (hw _ (List.mem_of_getElem? (i := 25) rfl))) (mvT hZ (hw _ (List.mem_of_getElem? (i := 18) rfl))) (mvT hZ (hw _ (List.mem_of_getElem? (i := 26) rfl))) (by decide) (backOf (W := 1) (rmCd4 l Z a0 hw [] b k2 _ T3_.heap n0 sz V_b) hZ (hw _ (List.mem_of_getElem? (i := 26) rfl)) (hw _ (List.mem_of_getElem? (i := 18) rfl)) (by decide) (by decide)) (g := (mkF m 45 #[.val (.ref a), .val (.ref d), .val (.int (0 : Int32)), .val (.int (4 : Int32)), .val .null, .val (.ref b)] [(.int (4 : Int32)), (.ref b), (.ref a)])) rfl (by rw [hml]; rfl) (argsL := [(.ref b), (.int (4 : Int32))]) (rest := [(.ref a)]) (lenOf pd__28_5bBI_29B rfl) rfl (by show 2 * 0 + _ ≤ _; exact Nat.le_of_eq rfl) (hb hby d_jdk_42_method_149_45) (fun _ _ => ⟨rfl, rfl, (by decide : 1 + 0 ≤ _), (by decide : 4 + 0 ≤ _)⟩)
  dsimp only [Pt.U, Pt.locs, Pt.cells, Pt.slots] at X4_ l4_ y4_ z4_ st4_ hQ4_
  subst l4_ y4_ z4_
  obtain ⟨rfl, N4_q, e4_⟩ := hQ4_
  have N4_ := Fr.app N3_ N4_q
  refine Runs.st (st4_) ?_
  replace X4_ := wider X4_ (c' := 1) (s' := 4) (by decide) (by decide)
  show Runs p.tables e below _ (T4_.setTop (mkF m 48 #[.val (.ref a), .val (.ref d), .val (.int (0 : Int32)), .val (.int (4 : Int32)), .val .null, .val (.ref b)] [(.int (0 : Int32)), (.ref a)]))
  obtain ⟨T5_, h5_, X5_, e5_, W5_, st5_⟩ := putFN X4_ hx hZ hown (hw _ (List.mem_of_getElem? (i := 27) rfl)) Via.refl e4_ F_c E_a (Or.inr ⟨(hw _ (List.mem_of_getElem? (i := 28) rfl)), rfl, hnm⟩) (hw _ (List.mem_of_getElem? (i := 3) rfl)) (ty := .byte) (v' := .int (0 : Int32)) (by decide) rfl rfl (g := (mkF m 48 #[.val (.ref a), .val (.ref d), .val (.int (0 : Int32)), .val (.int (4 : Int32)), .val .null, .val (.ref b)] [(.int (0 : Int32)), (.ref a)])) rfl rfl (hb hby d_jdk_42_method_149_48)
  refine Runs.st (st5_) ?_
  replace F_c := F_c.same W5_
  replace E_a := Jvm.RoadKit.Exa.wr W5_ E_a
  replace F_v := F_v.other W5_ (Or.inr (slot_ne (Or.inr (hw _ (List.mem_of_getElem? (i := 30) rfl))) (Or.inr (hw _ (List.mem_of_getElem? (i := 28) rfl))) (by decide) (t := (.array .byte)) (t' := .byte) (by decide) (by decide)))
  replace V_b := V_b.other W5_ (Ne.symm ne_a_b)
  replace sz := Nat.le_trans sz (Keep.of_wr W5_).1
  have N5_ := Fr.snoc X5_ N4_ g_a
  replace K := K.wr W5_ (Or.inl (List.mem_of_getElem? (i := 0) rfl))
  show Runs p.tables e below _ (T5_.setTop (mkF m 51 #[.val (.ref a), .val (.ref d), .val (.int (0 : Int32)), .val (.int (4 : Int32)), .val .null, .val (.ref b)] []))
  refine Runs.st (fun t' k' => XS.aloadN X5_.here hx rfl (hb hby d_jdk_42_method_149_51) rfl rfl k') ?_
  refine Runs.st (fun t' k' => XS.aload X5_.here hx rfl (hb hby d_jdk_42_method_149_52) rfl rfl k') ?_
  obtain ⟨T6_, h6_, X6_, e6_, W6_, st6_⟩ := putF X5_ hx hZ hown (host := "") (Or.inl (hw _ (List.mem_of_getElem? (i := 29) rfl))) Via.refl e5_ F_v E_a (Or.inr ⟨(hw _ (List.mem_of_getElem? (i := 30) rfl)), rfl, hnm⟩) (hw _ (List.mem_of_getElem? (i := 3) rfl)) (ty := (.array .byte)) (by decide) rfl rfl (g := (mkF m 54 #[.val (.ref a), .val (.ref d), .val (.int (0 : Int32)), .val (.int (4 : Int32)), .val .null, .val (.ref b)] [(.ref b), (.ref a)])) rfl rfl (hb hby d_jdk_42_method_149_54)
  refine Runs.st (st6_) ?_
  replace F_v := F_v.same W6_
  replace E_a := Jvm.RoadKit.Exa.wr W6_ E_a
  replace V_b := V_b.other W6_ (Ne.symm ne_a_b)
  replace F_c := F_c.other W6_ (Or.inr (slot_ne (Or.inr (hw _ (List.mem_of_getElem? (i := 28) rfl))) (Or.inr (hw _ (List.mem_of_getElem? (i := 30) rfl))) (by decide) (t := .byte) (t' := (.array .byte)) (by decide) (by decide)))
  replace sz := Nat.le_trans sz (Keep.of_wr W6_).1
  have N6_ := Fr.snoc X6_ N5_ g_a
  replace K := K.wr W6_ (Or.inl (List.mem_of_getElem? (i := 0) rfl))
  show Runs p.tables e below _ (T6_.setTop (mkF m 57 #[.val (.ref a), .val (.ref d), .val (.int (0 : Int32)), .val (.int (4 : Int32)), .val .null, .val (.ref b)] []))
  refine Runs.ret X6_ hlk (v := none) (fun _ => rfl) (by decide) (by decide) ?_ (fun fs hr => X6_.returnOut hx hret (hb hby d_jdk_42_method_149_57) hr)
  try rw [e6_]
  exact ⟨rfl, N6_, K, E_a, F_c, b, k2, sz_b, F_v, V_b⟩
def Q_rmIC4 (Z : State) (a : Addr) (d : Addr) (c0 c1 c2 c3 : Int32) (k1 : ClassId) (zc : Int32) (h0 : Heap) (n0 : Nat) : Option Value → Heap → List Loc → Prop := (fun v h L => v = none ∧ Fr n0 L ∧ Keep h0 h [a] ∧ Exa Z h a "java/lang/String" ∧ Fld Z h a "java/lang/String" "coder" "B" (.int (0 : Int32)) ∧ ∃ b k2, h0.size ≤ b ∧ Fld Z h a "java/lang/String" "value" "[B" (.ref b) ∧ Arv Z h b k2 .byte (4 : Int32) [(.int (nar .byte (c0.toInt8.toInt32))), (.int (nar .byte (c1.toInt8.toInt32))), (.int (nar .byte (c2.toInt8.toInt32))), (.int (nar .byte (c3.toInt8.toInt32)))] (.int (0 : Int32)))
set_option maxRecDepth 65536 in
set_option maxHeartbeats 40000000 in
theorem rmIC4 (l : Launch) (Z : State) (a0 : Array Value) (hw : ∀ d ∈ tables_1, d.before a0 Z = true) (ws : List Jvm.Cond) (a : Addr) (d : Addr) (c0 c1 c2 c3 : Int32) (k1 : ClassId) (zc : Int32) (h0 : Heap) (n0 : Nat) (Z0 : n0 ≤ h0.size) (E_a : Exa Z h0 a "java/lang/String") (F_v : Fld Z h0 a "java/lang/String" "value" "[B" .null) (F_c : Fld Z h0 a "java/lang/String" "coder" "B" (.int (0 : Int32))) (g_a : n0 ≤ a) (V_d : Arv Z h0 d k1 .char (4 : Int32) [(.int c0), (.int c1), (.int c2), (.int c3)] (.int (0 : Int32))) (Sc : Sta Z h0 "java/lang/String" "COMPACT_STRINGS" "Z" (.int zc)) (hzc : ¬ zc = 0) (u0 : ¬ ((255 : Int32) < c0)) (u1 : ¬ ((255 : Int32) < c1)) (u2 : ¬ ((255 : Int32) < c2)) (u3 : ¬ ((255 : Int32) < c3)) :
    MetFree l (⟨"java/lang/String", "<init>", "([C)V"⟩ : MethodName) (head1 (Jvm.Cond.code (⟨"java/lang/String", "<init>", "([C)V"⟩ : MethodName) jdk_42_method_3_code 2 none :: ws) ({ frames := 3, cells := 1, slots := 4, locals := 52 } : Room)) (fun ar_ U => ar_ = #[(.ref a), (.ref d)] ∧ Z.Warmed39 U.vm ∧ U.heap = h0) (fun _ _ _ _ _ => True) (fun _ U o U' => Phi U (Q_rmIC4 Z a d c0 c1 c2 c3 k1 zc h0 n0) ({ frames := 3, cells := 1, slots := 4, locals := 52 } : Room).cells ({ frames := 3, cells := 1, slots := 4, locals := 52 } : Room).slots o U') := by
  refine MetFree.of_bodySF (plainFor_of_name pn_java_lang_String) hisR ?_
  intro p e s m args below meth c s₁ Bd hml0 hP hK
  obtain ⟨rfl, hZ, hh⟩ := hP
  have hx := Bd.exec
  have hby := Bd.bytes
  have hlk := Bd.notSynchronized
  have hml : c.maxLocals = 2 := hml0
  have hown : s.vm.findClass "java/lang/String" = some m.cls := findClass_of_methodNamed Bd.named
  have hown0 := hown
  have hnm := (name_of_methodNamed Bd.named Bd.method).1
  have hret := Bd.returns
  have X0 : Stand p l e ({ frames := 3, cells := 1, slots := 4, locals := 52 } : Room) s m #[(.ref a), (.ref d)] below meth c s₁ [] 0 0 := Stand.of_body Bd
  have e0 : s₁.heap = h0 := by rw [← hh, Bd.state]; rfl
  have N0 := Fr.nil n0
  have sz := Z0
  have K := Keep.refl h0 [a]
  show Runs p.tables e below (Phi s (Q_rmIC4 Z a d c0 c1 c2 c3 k1 zc h0 n0) ({ frames := 3, cells := 1, slots := 4, locals := 52 } : Room).cells ({ frames := 3, cells := 1, slots := 4, locals := 52 } : Room).slots) _
  refine Runs.st (fun t' k' => castTop (ef_jdk_42_method_3_RR m a d ) k') ?_
  show Runs p.tables e below _ (s₁.setTop (mkF m 0 #[.val (.ref a), .val (.ref d)] []))
  refine Runs.st (fun t' k' => XS.aloadN X0.here hx rfl (hb hby d_jdk_42_method_3_0) rfl rfl k') ?_
  refine Runs.st (fun t' k' => XS.aloadN X0.here hx rfl (hb hby d_jdk_42_method_3_1) rfl rfl k') ?_
  refine Runs.st (fun t' k' => XS.iconst X0.here hx rfl (hb hby d_jdk_42_method_3_2) k') ?_
  refine Runs.st (fun t' k' => XS.aloadN X0.here hx rfl (hb hby d_jdk_42_method_3_3) rfl rfl k') ?_
  obtain ⟨cl1_, Ar1_, -, S1_, M1_, -, -⟩ := id V_d
  refine Runs.st (X0.arraylength hx (by rw [e0]; exact Ar1_.1) (State.isArrayOf_alike hZ.alike Ar1_.2.1) (g := (mkF m 4 #[.val (.ref a), .val (.ref d)] [(.ref d), (.int (0 : Int32)), (.ref d), (.ref a)])) rfl rfl (hb hby d_jdk_42_method_3_4)) ?_
  rw [len_of S1_ M1_]
  show Runs p.tables e below _ (s₁.setTop (mkF m 5 #[.val (.ref a), .val (.ref d)] [(.int (4 : Int32)), (.int (0 : Int32)), (.ref d), (.ref a)]))
  refine Runs.st (fun t' k' => XS.aconstNull X0.here hx rfl (hb hby d_jdk_42_method_3_5) k') ?_
  obtain ⟨_, _, ⟨T2_, L2_, k2_, n2_⟩, -, X2_, ⟨Lc2_, hQ2_, l2_, y2_, z2_⟩, st2_⟩ := X0.specialBack hx (y := (⟨"java/lang/String", "<init>", "([CIILjava/lang/Void;)V"⟩ : MethodName)) rfl hown (mvT hZ (hw _ (List.mem_of_getElem? (i := 8) rfl))) (mvT hZ (hw _ (List.mem_of_getElem? (i := 9) rfl))) (mvT hZ (hw _ (List.mem_of_getElem? (i := 11) rfl))) (by decide) (backOf (W := 0) (rmID4 l Z a0 hw [] a d c0 c1 c2 c3 k1 zc h0 n0 sz E_a F_v F_c g_a V_d Sc hzc u0 u1 u2 u3) hZ (hw _ (List.mem_of_getElem? (i := 11) rfl)) (hw _ (List.mem_of_getElem? (i := 4) rfl)) (by decide) (by decide)) (g := (mkF m 6 #[.val (.ref a), .val (.ref d)] [.null, (.int (4 : Int32)), (.int (0 : Int32)), (.ref d), (.ref a)])) rfl (by rw [hml]; rfl) (Steps.refl _) (a := a) (argsL := [(.ref d), (.int (0 : Int32)), (.int (4 : Int32)), .null]) (rest := []) (lenOf pd__28_5bCIILjava_2flang_2fVoid_3b_29V rfl) rfl (by show 2 * 0 + _ ≤ _; exact Nat.le_of_eq rfl) (hb hby d_jdk_42_method_3_6) (fun _ _ => ⟨rfl, e0, (by decide : 0 + 1 ≤ _), (by decide : 0 + 4 ≤ _)⟩)
  dsimp only [Pt.U, Pt.locs, Pt.cells, Pt.slots] at X2_ l2_ y2_ z2_ st2_ hQ2_
  subst l2_ y2_ z2_
  obtain ⟨rfl, N2_q, K2_, E_a, F_c, b, k2, szb, F_v, V_b⟩ := hQ2_
  have N2_ := Fr.app N0 N2_q
  refine Runs.tr st2_ ?_
  replace X2_ := wider X2_ (c' := 1) (s' := 4) (by decide) (by decide)
  replace sz := Nat.le_trans sz K2_.1
  replace K := K.trans K2_ (allS (Or.inl (List.mem_of_getElem? (i := 0) rfl)) all0)
  show Runs p.tables e below _ (T2_.setTop (mkF m 9 #[.val (.ref a), .val (.ref d)] []))
  refine Runs.ret X2_ hlk (v := none) (fun _ => rfl) (by decide) (by decide) ?_ (fun fs hr => X2_.returnOut hx hret (hb hby d_jdk_42_method_3_9) hr)
  exact ⟨rfl, N2_, K, E_a, F_c, b, k2, szb, F_v, V_b⟩
def Q_rmCA5 (Z : State) (a : Addr) (b : Addr) (c0 c1 c2 c3 c4 : Int32) (k1 k2 : ClassId) (h0 : Heap) (n0 : Nat) : Option Value → Heap → List Loc → Prop := (fun v h L => v = some (.int (5 : Int32)) ∧ Fr n0 L ∧ Keep h0 h [b] ∧ Arv Z h b k2 .byte (5 : Int32) [(.int (nar .byte (c0.toInt8.toInt32))), (.int (nar .byte (c1.toInt8.toInt32))), (.int (nar .byte (c2.toInt8.toInt32))), (.int (nar .byte (c3.toInt8.toInt32))), (.int (nar .byte (c4.toInt8.toInt32)))] (.int (0 : Int32)))
set_option maxRecDepth 65536 in
set_option maxHeartbeats 40000000 in
theorem rmCA5 (l : Launch) (Z : State) (a0 : Array Value) (hw : ∀ d ∈ tables_1, d.before a0 Z = true) (ws : List Jvm.Cond) (a : Addr) (b : Addr) (c0 c1 c2 c3 c4 : Int32) (k1 k2 : ClassId) (h0 : Heap) (n0 : Nat) (Z0 : n0 ≤ h0.size) (V_a : Arv Z h0 a k1 .char (5 : Int32) [(.int c0), (.int c1), (.int c2), (.int c3), (.int c4)] (.int (0 : Int32))) (V_b : Arv Z h0 b k2 .byte (5 : Int32) [(.int (0 : Int32)), (.int (0 : Int32)), (.int (0 : Int32)), (.int (0 : Int32)), (.int (0 : Int32))] (.int (0 : Int32))) (ne_a_b : a ≠ b) (g_b : n0 ≤ b) (u0 : ¬ ((255 : Int32) < c0)) (u1 : ¬ ((255 : Int32) < c1)) (u2 : ¬ ((255 : Int32) < c2)) (u3 : ¬ ((255 : Int32) < c3)) (u4 : ¬ ((255 : Int32) < c4)) :
    MetFree l (⟨"java/lang/StringUTF16", "compress", "([CI[BII)I"⟩ : MethodName) (head1 (Jvm.Cond.code (⟨"java/lang/StringUTF16", "compress", "([CI[BII)I"⟩ : MethodName) jdk_52_method_21_code 7 (some .int) :: ws) ({ frames := 0, cells := 0, slots := 0, locals := 0 } : Room)) (fun ar_ U => ar_ = #[(.ref a), (.int (0 : Int32)), (.ref b), (.int (0 : Int32)), (.int (5 : Int32))] ∧ Z.Warmed39 U.vm ∧ U.heap = h0) (fun _ _ _ _ _ => True) (fun _ U o U' => Phi U (Q_rmCA5 Z a b c0 c1 c2 c3 c4 k1 k2 h0 n0) ({ frames := 0, cells := 0, slots := 0, locals := 0 } : Room).cells ({ frames := 0, cells := 0, slots := 0, locals := 0 } : Room).slots o U') := by
  refine MetFree.of_bodySF (plainFor_of_name pn_java_lang_StringUTF16) hisR ?_
  intro p e s m args below meth c s₁ Bd hml0 hP hK
  obtain ⟨rfl, hZ, hh⟩ := hP
  have hx := Bd.exec
  have hby := Bd.bytes
  have hlk := Bd.notSynchronized
  have hml : c.maxLocals = 7 := hml0
  have hown : s.vm.findClass "java/lang/StringUTF16" = some m.cls := findClass_of_methodNamed Bd.named
  have hown0 := hown
  have hnm := (name_of_methodNamed Bd.named Bd.method).1
  have hret := Bd.returns
  have X0 : Stand p l e ({ frames := 0, cells := 0, slots := 0, locals := 0 } : Room) s m #[(.ref a), (.int (0 : Int32)), (.ref b), (.int (0 : Int32)), (.int (5 : Int32))] below meth c s₁ [] 0 0 := Stand.of_body Bd
  have e0 : s₁.heap = h0 := by rw [← hh, Bd.state]; rfl
  have N0 := Fr.nil n0
  have sz := Z0
  have K := Keep.refl h0 [b]
  show Runs p.tables e below (Phi s (Q_rmCA5 Z a b c0 c1 c2 c3 c4 k1 k2 h0 n0) ({ frames := 0, cells := 0, slots := 0, locals := 0 } : Room).cells ({ frames := 0, cells := 0, slots := 0, locals := 0 } : Room).slots) _
  refine Runs.st (fun t' k' => castTop (ef_jdk_52_method_21_RIRII m a (0 : Int32) b (0 : Int32) (5 : Int32) ) k') ?_
  show Runs p.tables e below _ (s₁.setTop (mkF m 0 #[.val (.ref a), .val (.int (0 : Int32)), .val (.ref b), .val (.int (0 : Int32)), .val (.int (5 : Int32)), .unset, .unset] []))
  refine Runs.st (fun t' k' => XS.iconst X0.here hx rfl (hb hby d_jdk_52_method_21_0) k') ?_
  refine Runs.st (fun t' k' => XS.istore X0.here hx rfl (hb hby d_jdk_52_method_21_1) rfl (l' := #[.val (.ref a), .val (.int (0 : Int32)), .val (.ref b), .val (.int (0 : Int32)), .val (.int (5 : Int32)), .val (.int (0 : Int32)), .unset]) rfl k') ?_
  refine Runs.st (fun t' k' => XS.iload X0.here hx rfl (hb hby d_jdk_52_method_21_3) rfl k') ?_
  refine Runs.st (fun t' k' => XS.iload X0.here hx rfl (hb hby d_jdk_52_method_21_5) rfl k') ?_
  refine Runs.st (fun t' k' => XS.icmpNo X0.here hx rfl (hb hby d_jdk_52_method_21_7) rfl (tlt (by decide)).2.1 k') ?_
  show Runs p.tables e below _ (s₁.setTop (mkF m 10 #[.val (.ref a), .val (.int (0 : Int32)), .val (.ref b), .val (.int (0 : Int32)), .val (.int (5 : Int32)), .val (.int (0 : Int32)), .unset] []))
  refine Runs.st (fun t' k' => XS.aloadN X0.here hx rfl (hb hby d_jdk_52_method_21_10) rfl rfl k') ?_
  refine Runs.st (fun t' k' => XS.iloadN X0.here hx rfl (hb hby d_jdk_52_method_21_11) rfl k') ?_
  obtain ⟨cl1_, Ar1_, -, S1_, M1_, Ha1_, -⟩ := id V_a
  have hin1_ : ¬ ((0 : Int32) < 0 ∨ cl1_.slots.size ≤ ((0 : Int32)).toNatClampNeg) := inb_of S1_ ⟨by decide, by decide⟩
  refine Runs.st (X0.caload hx (j := (0 : Int32)) (v := (.int c0)) (by rw [e0]; exact Ar1_.1) (State.isArrayOf_alike hZ.alike Ar1_.2.1) Ar1_.2.2 hin1_ (Ha1_.at hin1_ rfl) (g := (mkF m 12 #[.val (.ref a), .val (.int (0 : Int32)), .val (.ref b), .val (.int (0 : Int32)), .val (.int (5 : Int32)), .val (.int (0 : Int32)), .unset] [(.int (0 : Int32)), (.ref a)])) rfl rfl (hb hby d_jdk_52_method_21_12)) ?_
  show Runs p.tables e below _ (s₁.setTop (mkF m 13 #[.val (.ref a), .val (.int (0 : Int32)), .val (.ref b), .val (.int (0 : Int32)), .val (.int (5 : Int32)), .val (.int (0 : Int32)), .unset] [(.int c0)]))
  refine Runs.st (fun t' k' => XS.istore X0.here hx rfl (hb hby d_jdk_52_method_21_13) rfl (l' := #[.val (.ref a), .val (.int (0 : Int32)), .val (.ref b), .val (.int (0 : Int32)), .val (.int (5 : Int32)), .val (.int (0 : Int32)), .val (.int c0)]) rfl k') ?_
  refine Runs.st (fun t' k' => XS.iload X0.here hx rfl (hb hby d_jdk_52_method_21_15) rfl k') ?_
  refine Runs.st (fun t' k' => XS.sipush X0.here hx rfl (hb hby d_jdk_52_method_21_17) k') ?_
  refine Runs.st (fun t' k' => XS.icmpYes X0.here hx rfl (pc0 := 20) (pc' := 26) rfl (hb hby d_jdk_52_method_21_20) rfl (flt u0).2.2.2 (by decide) (by decide) k') ?_
  show Runs p.tables e below _ (s₁.setTop (mkF m 26 #[.val (.ref a), .val (.int (0 : Int32)), .val (.ref b), .val (.int (0 : Int32)), .val (.int (5 : Int32)), .val (.int (0 : Int32)), .val (.int c0)] []))
  refine Runs.st (fun t' k' => XS.aloadN X0.here hx rfl (hb hby d_jdk_52_method_21_26) rfl rfl k') ?_
  refine Runs.st (fun t' k' => XS.iloadN X0.here hx rfl (hb hby d_jdk_52_method_21_27) rfl k') ?_
  refine Runs.st (fun t' k' => XS.iload X0.here hx rfl (hb hby d_jdk_52_method_21_28) rfl k') ?_
  refine Runs.st (fun t' k' => XS.i2b X0.here hx rfl (hb hby d_jdk_52_method_21_30) rfl k') ?_
  obtain ⟨cl2_, Ar2_, q2_, S2_, M2_, Ha2_, G2_⟩ := V_b
  have hin2_ : ¬ ((0 : Int32) < 0 ∨ cl2_.slots.size ≤ ((0 : Int32)).toNatClampNeg) := inb_of S2_ ⟨by decide, by decide⟩
  obtain ⟨T2_, h2_, X2_, e2_, W2_, st2_⟩ := stB X0 hx hZ e0 Ar2_ (j := (0 : Int32)) hin2_ (g := (mkF m 31 #[.val (.ref a), .val (.int (0 : Int32)), .val (.ref b), .val (.int (0 : Int32)), .val (.int (5 : Int32)), .val (.int (0 : Int32)), .val (.int c0)] [(.int (c0.toInt8.toInt32)), (.int (0 : Int32)), (.ref b)])) rfl rfl (hb hby d_jdk_52_method_21_31)
  refine Runs.st (st2_) ?_
  have V_b := Arv.set Ar2_ q2_ S2_ M2_ Ha2_ G2_ (fits_nar_byte _) W2_ 0 rfl (Nat.le_of_ble_eq_true rfl)
  replace V_a := V_a.other W2_ ne_a_b
  replace sz := Nat.le_trans sz (Keep.of_wr W2_).1
  have N2_ := Fr.snoc X2_ N0 g_b
  replace K := K.wr W2_ (Or.inl (List.mem_of_getElem? (i := 0) rfl))
  show Runs p.tables e below _ (T2_.setTop (mkF m 32 #[.val (.ref a), .val (.int (0 : Int32)), .val (.ref b), .val (.int (0 : Int32)), .val (.int (5 : Int32)), .val (.int (0 : Int32)), .val (.int c0)] []))
  refine Runs.st (fun t' k' => XS.iinc X2_.here hx rfl (hb hby d_jdk_52_method_21_32) rfl (l' := #[.val (.ref a), .val (.int ((0 : Int32) + (1 : Int32))), .val (.ref b), .val (.int (0 : Int32)), .val (.int (5 : Int32)), .val (.int (0 : Int32)), .val (.int c0)]) rfl k') ?_
  refine Runs.st (fun t' k' => XS.iinc X2_.here hx rfl (hb hby d_jdk_52_method_21_35) rfl (l' := #[.val (.ref a), .val (.int ((0 : Int32) + (1 : Int32))), .val (.ref b), .val (.int ((0 : Int32) + (1 : Int32))), .val (.int (5 : Int32)), .val (.int (0 : Int32)), .val (.int c0)]) rfl k') ?_
  refine Runs.st (fun t' k' => XS.iinc X2_.here hx rfl (hb hby d_jdk_52_method_21_38) rfl (l' := #[.val (.ref a), .val (.int ((0 : Int32) + (1 : Int32))), .val (.ref b), .val (.int ((0 : Int32) + (1 : Int32))), .val (.int (5 : Int32)), .val (.int ((0 : Int32) + (1 : Int32))), .val (.int c0)]) rfl k') ?_
  show Runs p.tables e below _ (T2_.setTop (mkF m 41 #[.val (.ref a), .val (.int ((0 : Int32) + (1 : Int32))), .val (.ref b), .val (.int ((0 : Int32) + (1 : Int32))), .val (.int (5 : Int32)), .val (.int ((0 : Int32) + (1 : Int32))), .val (.int c0)] []))
  rw [show ((0 : Int32) + (1 : Int32)) = (1 : Int32) from rfl]
  show Runs p.tables e below _ (T2_.setTop (mkF m 41 #[.val (.ref a), .val (.int (1 : Int32)), .val (.ref b), .val (.int (1 : Int32)), .val (.int (5 : Int32)), .val (.int (1 : Int32)), .val (.int c0)] []))
  refine Runs.st (fun t' k' => XS.goto X2_.here hx rfl (pc0 := 41) (pc' := 3) rfl (hb hby d_jdk_52_method_21_41) (by decide) (by decide) k') ?_
  refine Runs.st (fun t' k' => XS.iload X2_.here hx rfl (hb hby d_jdk_52_method_21_3) rfl k') ?_
  show Runs p.tables e below _ (T2_.setTop (mkF m 5 #[.val (.ref a), .val (.int (1 : Int32)), .val (.ref b), .val (.int (1 : Int32)), .val (.int (5 : Int32)), .val (.int (1 : Int32)), .val (.int c0)] [(.int (1 : Int32))]))
  refine Runs.st (fun t' k' => XS.iload X2_.here hx rfl (hb hby d_jdk_52_method_21_5) rfl k') ?_
  refine Runs.st (fun t' k' => XS.icmpNo X2_.here hx rfl (hb hby d_jdk_52_method_21_7) rfl (tlt (by decide)).2.1 k') ?_
  show Runs p.tables e below _ (T2_.setTop (mkF m 10 #[.val (.ref a), .val (.int (1 : Int32)), .val (.ref b), .val (.int (1 : Int32)), .val (.int (5 : Int32)), .val (.int (1 : Int32)), .val (.int c0)] []))
  refine Runs.st (fun t' k' => XS.aloadN X2_.here hx rfl (hb hby d_jdk_52_method_21_10) rfl rfl k') ?_
  refine Runs.st (fun t' k' => XS.iloadN X2_.here hx rfl (hb hby d_jdk_52_method_21_11) rfl k') ?_
  obtain ⟨cl3_, Ar3_, -, S3_, M3_, Ha3_, -⟩ := id V_a
  have hin3_ : ¬ ((1 : Int32) < 0 ∨ cl3_.slots.size ≤ ((1 : Int32)).toNatClampNeg) := inb_of S3_ ⟨by decide, by decide⟩
  refine Runs.st (X2_.caload hx (j := (1 : Int32)) (v := (.int c1)) (by rw [e2_]; exact Ar3_.1) (State.isArrayOf_alike hZ.alike Ar3_.2.1) Ar3_.2.2 hin3_ (Ha3_.at hin3_ rfl) (g := (mkF m 12 #[.val (.ref a), .val (.int (1 : Int32)), .val (.ref b), .val (.int (1 : Int32)), .val (.int (5 : Int32)), .val (.int (1 : Int32)), .val (.int c0)] [(.int (1 : Int32)), (.ref a)])) rfl rfl (hb hby d_jdk_52_method_21_12)) ?_
  show Runs p.tables e below _ (T2_.setTop (mkF m 13 #[.val (.ref a), .val (.int (1 : Int32)), .val (.ref b), .val (.int (1 : Int32)), .val (.int (5 : Int32)), .val (.int (1 : Int32)), .val (.int c0)] [(.int c1)]))
  refine Runs.st (fun t' k' => XS.istore X2_.here hx rfl (hb hby d_jdk_52_method_21_13) rfl (l' := #[.val (.ref a), .val (.int (1 : Int32)), .val (.ref b), .val (.int (1 : Int32)), .val (.int (5 : Int32)), .val (.int (1 : Int32)), .val (.int c1)]) rfl k') ?_
  refine Runs.st (fun t' k' => XS.iload X2_.here hx rfl (hb hby d_jdk_52_method_21_15) rfl k') ?_
  refine Runs.st (fun t' k' => XS.sipush X2_.here hx rfl (hb hby d_jdk_52_method_21_17) k') ?_
  refine Runs.st (fun t' k' => XS.icmpYes X2_.here hx rfl (pc0 := 20) (pc' := 26) rfl (hb hby d_jdk_52_method_21_20) rfl (flt u1).2.2.2 (by decide) (by decide) k') ?_
  show Runs p.tables e below _ (T2_.setTop (mkF m 26 #[.val (.ref a), .val (.int (1 : Int32)), .val (.ref b), .val (.int (1 : Int32)), .val (.int (5 : Int32)), .val (.int (1 : Int32)), .val (.int c1)] []))
  refine Runs.st (fun t' k' => XS.aloadN X2_.here hx rfl (hb hby d_jdk_52_method_21_26) rfl rfl k') ?_
  refine Runs.st (fun t' k' => XS.iloadN X2_.here hx rfl (hb hby d_jdk_52_method_21_27) rfl k') ?_
  refine Runs.st (fun t' k' => XS.iload X2_.here hx rfl (hb hby d_jdk_52_method_21_28) rfl k') ?_
  refine Runs.st (fun t' k' => XS.i2b X2_.here hx rfl (hb hby d_jdk_52_method_21_30) rfl k') ?_
  obtain ⟨cl4_, Ar4_, q4_, S4_, M4_, Ha4_, G4_⟩ := V_b
  have hin4_ : ¬ ((1 : Int32) < 0 ∨ cl4_.slots.size ≤ ((1 : Int32)).toNatClampNeg) := inb_of S4_ ⟨by decide, by decide⟩
  obtain ⟨T4_, h4_, X4_, e4_, W4_, st4_⟩ := stB X2_ hx hZ e2_ Ar4_ (j := (1 : Int32)) hin4_ (g := (mkF m 31 #[.val (.ref a), .val (.int (1 : Int32)), .val (.ref b), .val (.int (1 : Int32)), .val (.int (5 : Int32)), .val (.int (1 : Int32)), .val (.int c1)] [(.int (c1.toInt8.toInt32)), (.int (1 : Int32)), (.ref b)])) rfl rfl (hb hby d_jdk_52_method_21_31)
  refine Runs.st (st4_) ?_
  have V_b := Arv.set Ar4_ q4_ S4_ M4_ Ha4_ G4_ (fits_nar_byte _) W4_ 1 rfl (Nat.le_of_ble_eq_true rfl)
  replace V_a := V_a.other W4_ ne_a_b
  replace sz := Nat.le_trans sz (Keep.of_wr W4_).1
  have N4_ := Fr.snoc X4_ N2_ g_b
  replace K := K.wr W4_ (Or.inl (List.mem_of_getElem? (i := 0) rfl))
  show Runs p.tables e below _ (T4_.setTop (mkF m 32 #[.val (.ref a), .val (.int (1 : Int32)), .val (.ref b), .val (.int (1 : Int32)), .val (.int (5 : Int32)), .val (.int (1 : Int32)), .val (.int c1)] []))
  refine Runs.st (fun t' k' => XS.iinc X4_.here hx rfl (hb hby d_jdk_52_method_21_32) rfl (l' := #[.val (.ref a), .val (.int ((1 : Int32) + (1 : Int32))), .val (.ref b), .val (.int (1 : Int32)), .val (.int (5 : Int32)), .val (.int (1 : Int32)), .val (.int c1)]) rfl k') ?_
  refine Runs.st (fun t' k' => XS.iinc X4_.here hx rfl (hb hby d_jdk_52_method_21_35) rfl (l' := #[.val (.ref a), .val (.int ((1 : Int32) + (1 : Int32))), .val (.ref b), .val (.int ((1 : Int32) + (1 : Int32))), .val (.int (5 : Int32)), .val (.int (1 : Int32)), .val (.int c1)]) rfl k') ?_
  refine Runs.st (fun t' k' => XS.iinc X4_.here hx rfl (hb hby d_jdk_52_method_21_38) rfl (l' := #[.val (.ref a), .val (.int ((1 : Int32) + (1 : Int32))), .val (.ref b), .val (.int ((1 : Int32) + (1 : Int32))), .val (.int (5 : Int32)), .val (.int ((1 : Int32) + (1 : Int32))), .val (.int c1)]) rfl k') ?_
  show Runs p.tables e below _ (T4_.setTop (mkF m 41 #[.val (.ref a), .val (.int ((1 : Int32) + (1 : Int32))), .val (.ref b), .val (.int ((1 : Int32) + (1 : Int32))), .val (.int (5 : Int32)), .val (.int ((1 : Int32) + (1 : Int32))), .val (.int c1)] []))
  rw [show ((1 : Int32) + (1 : Int32)) = (2 : Int32) from rfl]
  show Runs p.tables e below _ (T4_.setTop (mkF m 41 #[.val (.ref a), .val (.int (2 : Int32)), .val (.ref b), .val (.int (2 : Int32)), .val (.int (5 : Int32)), .val (.int (2 : Int32)), .val (.int c1)] []))
  refine Runs.st (fun t' k' => XS.goto X4_.here hx rfl (pc0 := 41) (pc' := 3) rfl (hb hby d_jdk_52_method_21_41) (by decide) (by decide) k') ?_
  refine Runs.st (fun t' k' => XS.iload X4_.here hx rfl (hb hby d_jdk_52_method_21_3) rfl k') ?_
  show Runs p.tables e below _ (T4_.setTop (mkF m 5 #[.val (.ref a), .val (.int (2 : Int32)), .val (.ref b), .val (.int (2 : Int32)), .val (.int (5 : Int32)), .val (.int (2 : Int32)), .val (.int c1)] [(.int (2 : Int32))]))
  refine Runs.st (fun t' k' => XS.iload X4_.here hx rfl (hb hby d_jdk_52_method_21_5) rfl k') ?_
  refine Runs.st (fun t' k' => XS.icmpNo X4_.here hx rfl (hb hby d_jdk_52_method_21_7) rfl (tlt (by decide)).2.1 k') ?_
  show Runs p.tables e below _ (T4_.setTop (mkF m 10 #[.val (.ref a), .val (.int (2 : Int32)), .val (.ref b), .val (.int (2 : Int32)), .val (.int (5 : Int32)), .val (.int (2 : Int32)), .val (.int c1)] []))
  refine Runs.st (fun t' k' => XS.aloadN X4_.here hx rfl (hb hby d_jdk_52_method_21_10) rfl rfl k') ?_
  refine Runs.st (fun t' k' => XS.iloadN X4_.here hx rfl (hb hby d_jdk_52_method_21_11) rfl k') ?_
  obtain ⟨cl5_, Ar5_, -, S5_, M5_, Ha5_, -⟩ := id V_a
  have hin5_ : ¬ ((2 : Int32) < 0 ∨ cl5_.slots.size ≤ ((2 : Int32)).toNatClampNeg) := inb_of S5_ ⟨by decide, by decide⟩
  refine Runs.st (X4_.caload hx (j := (2 : Int32)) (v := (.int c2)) (by rw [e4_]; exact Ar5_.1) (State.isArrayOf_alike hZ.alike Ar5_.2.1) Ar5_.2.2 hin5_ (Ha5_.at hin5_ rfl) (g := (mkF m 12 #[.val (.ref a), .val (.int (2 : Int32)), .val (.ref b), .val (.int (2 : Int32)), .val (.int (5 : Int32)), .val (.int (2 : Int32)), .val (.int c1)] [(.int (2 : Int32)), (.ref a)])) rfl rfl (hb hby d_jdk_52_method_21_12)) ?_
  show Runs p.tables e below _ (T4_.setTop (mkF m 13 #[.val (.ref a), .val (.int (2 : Int32)), .val (.ref b), .val (.int (2 : Int32)), .val (.int (5 : Int32)), .val (.int (2 : Int32)), .val (.int c1)] [(.int c2)]))
  refine Runs.st (fun t' k' => XS.istore X4_.here hx rfl (hb hby d_jdk_52_method_21_13) rfl (l' := #[.val (.ref a), .val (.int (2 : Int32)), .val (.ref b), .val (.int (2 : Int32)), .val (.int (5 : Int32)), .val (.int (2 : Int32)), .val (.int c2)]) rfl k') ?_
  refine Runs.st (fun t' k' => XS.iload X4_.here hx rfl (hb hby d_jdk_52_method_21_15) rfl k') ?_
  refine Runs.st (fun t' k' => XS.sipush X4_.here hx rfl (hb hby d_jdk_52_method_21_17) k') ?_
  refine Runs.st (fun t' k' => XS.icmpYes X4_.here hx rfl (pc0 := 20) (pc' := 26) rfl (hb hby d_jdk_52_method_21_20) rfl (flt u2).2.2.2 (by decide) (by decide) k') ?_
  show Runs p.tables e below _ (T4_.setTop (mkF m 26 #[.val (.ref a), .val (.int (2 : Int32)), .val (.ref b), .val (.int (2 : Int32)), .val (.int (5 : Int32)), .val (.int (2 : Int32)), .val (.int c2)] []))
  refine Runs.st (fun t' k' => XS.aloadN X4_.here hx rfl (hb hby d_jdk_52_method_21_26) rfl rfl k') ?_
  refine Runs.st (fun t' k' => XS.iloadN X4_.here hx rfl (hb hby d_jdk_52_method_21_27) rfl k') ?_
  refine Runs.st (fun t' k' => XS.iload X4_.here hx rfl (hb hby d_jdk_52_method_21_28) rfl k') ?_
  refine Runs.st (fun t' k' => XS.i2b X4_.here hx rfl (hb hby d_jdk_52_method_21_30) rfl k') ?_
  obtain ⟨cl6_, Ar6_, q6_, S6_, M6_, Ha6_, G6_⟩ := V_b
  have hin6_ : ¬ ((2 : Int32) < 0 ∨ cl6_.slots.size ≤ ((2 : Int32)).toNatClampNeg) := inb_of S6_ ⟨by decide, by decide⟩
  obtain ⟨T6_, h6_, X6_, e6_, W6_, st6_⟩ := stB X4_ hx hZ e4_ Ar6_ (j := (2 : Int32)) hin6_ (g := (mkF m 31 #[.val (.ref a), .val (.int (2 : Int32)), .val (.ref b), .val (.int (2 : Int32)), .val (.int (5 : Int32)), .val (.int (2 : Int32)), .val (.int c2)] [(.int (c2.toInt8.toInt32)), (.int (2 : Int32)), (.ref b)])) rfl rfl (hb hby d_jdk_52_method_21_31)
  refine Runs.st (st6_) ?_
  have V_b := Arv.set Ar6_ q6_ S6_ M6_ Ha6_ G6_ (fits_nar_byte _) W6_ 2 rfl (Nat.le_of_ble_eq_true rfl)
  replace V_a := V_a.other W6_ ne_a_b
  replace sz := Nat.le_trans sz (Keep.of_wr W6_).1
  have N6_ := Fr.snoc X6_ N4_ g_b
  replace K := K.wr W6_ (Or.inl (List.mem_of_getElem? (i := 0) rfl))
  show Runs p.tables e below _ (T6_.setTop (mkF m 32 #[.val (.ref a), .val (.int (2 : Int32)), .val (.ref b), .val (.int (2 : Int32)), .val (.int (5 : Int32)), .val (.int (2 : Int32)), .val (.int c2)] []))
  refine Runs.st (fun t' k' => XS.iinc X6_.here hx rfl (hb hby d_jdk_52_method_21_32) rfl (l' := #[.val (.ref a), .val (.int ((2 : Int32) + (1 : Int32))), .val (.ref b), .val (.int (2 : Int32)), .val (.int (5 : Int32)), .val (.int (2 : Int32)), .val (.int c2)]) rfl k') ?_
  refine Runs.st (fun t' k' => XS.iinc X6_.here hx rfl (hb hby d_jdk_52_method_21_35) rfl (l' := #[.val (.ref a), .val (.int ((2 : Int32) + (1 : Int32))), .val (.ref b), .val (.int ((2 : Int32) + (1 : Int32))), .val (.int (5 : Int32)), .val (.int (2 : Int32)), .val (.int c2)]) rfl k') ?_
  refine Runs.st (fun t' k' => XS.iinc X6_.here hx rfl (hb hby d_jdk_52_method_21_38) rfl (l' := #[.val (.ref a), .val (.int ((2 : Int32) + (1 : Int32))), .val (.ref b), .val (.int ((2 : Int32) + (1 : Int32))), .val (.int (5 : Int32)), .val (.int ((2 : Int32) + (1 : Int32))), .val (.int c2)]) rfl k') ?_
  show Runs p.tables e below _ (T6_.setTop (mkF m 41 #[.val (.ref a), .val (.int ((2 : Int32) + (1 : Int32))), .val (.ref b), .val (.int ((2 : Int32) + (1 : Int32))), .val (.int (5 : Int32)), .val (.int ((2 : Int32) + (1 : Int32))), .val (.int c2)] []))
  rw [show ((2 : Int32) + (1 : Int32)) = (3 : Int32) from rfl]
  show Runs p.tables e below _ (T6_.setTop (mkF m 41 #[.val (.ref a), .val (.int (3 : Int32)), .val (.ref b), .val (.int (3 : Int32)), .val (.int (5 : Int32)), .val (.int (3 : Int32)), .val (.int c2)] []))
  refine Runs.st (fun t' k' => XS.goto X6_.here hx rfl (pc0 := 41) (pc' := 3) rfl (hb hby d_jdk_52_method_21_41) (by decide) (by decide) k') ?_
  refine Runs.st (fun t' k' => XS.iload X6_.here hx rfl (hb hby d_jdk_52_method_21_3) rfl k') ?_
  show Runs p.tables e below _ (T6_.setTop (mkF m 5 #[.val (.ref a), .val (.int (3 : Int32)), .val (.ref b), .val (.int (3 : Int32)), .val (.int (5 : Int32)), .val (.int (3 : Int32)), .val (.int c2)] [(.int (3 : Int32))]))
  refine Runs.st (fun t' k' => XS.iload X6_.here hx rfl (hb hby d_jdk_52_method_21_5) rfl k') ?_
  refine Runs.st (fun t' k' => XS.icmpNo X6_.here hx rfl (hb hby d_jdk_52_method_21_7) rfl (tlt (by decide)).2.1 k') ?_
  show Runs p.tables e below _ (T6_.setTop (mkF m 10 #[.val (.ref a), .val (.int (3 : Int32)), .val (.ref b), .val (.int (3 : Int32)), .val (.int (5 : Int32)), .val (.int (3 : Int32)), .val (.int c2)] []))
  refine Runs.st (fun t' k' => XS.aloadN X6_.here hx rfl (hb hby d_jdk_52_method_21_10) rfl rfl k') ?_
  refine Runs.st (fun t' k' => XS.iloadN X6_.here hx rfl (hb hby d_jdk_52_method_21_11) rfl k') ?_
  obtain ⟨cl7_, Ar7_, -, S7_, M7_, Ha7_, -⟩ := id V_a
  have hin7_ : ¬ ((3 : Int32) < 0 ∨ cl7_.slots.size ≤ ((3 : Int32)).toNatClampNeg) := inb_of S7_ ⟨by decide, by decide⟩
  refine Runs.st (X6_.caload hx (j := (3 : Int32)) (v := (.int c3)) (by rw [e6_]; exact Ar7_.1) (State.isArrayOf_alike hZ.alike Ar7_.2.1) Ar7_.2.2 hin7_ (Ha7_.at hin7_ rfl) (g := (mkF m 12 #[.val (.ref a), .val (.int (3 : Int32)), .val (.ref b), .val (.int (3 : Int32)), .val (.int (5 : Int32)), .val (.int (3 : Int32)), .val (.int c2)] [(.int (3 : Int32)), (.ref a)])) rfl rfl (hb hby d_jdk_52_method_21_12)) ?_
  show Runs p.tables e below _ (T6_.setTop (mkF m 13 #[.val (.ref a), .val (.int (3 : Int32)), .val (.ref b), .val (.int (3 : Int32)), .val (.int (5 : Int32)), .val (.int (3 : Int32)), .val (.int c2)] [(.int c3)]))
  refine Runs.st (fun t' k' => XS.istore X6_.here hx rfl (hb hby d_jdk_52_method_21_13) rfl (l' := #[.val (.ref a), .val (.int (3 : Int32)), .val (.ref b), .val (.int (3 : Int32)), .val (.int (5 : Int32)), .val (.int (3 : Int32)), .val (.int c3)]) rfl k') ?_
  refine Runs.st (fun t' k' => XS.iload X6_.here hx rfl (hb hby d_jdk_52_method_21_15) rfl k') ?_
  refine Runs.st (fun t' k' => XS.sipush X6_.here hx rfl (hb hby d_jdk_52_method_21_17) k') ?_
  refine Runs.st (fun t' k' => XS.icmpYes X6_.here hx rfl (pc0 := 20) (pc' := 26) rfl (hb hby d_jdk_52_method_21_20) rfl (flt u3).2.2.2 (by decide) (by decide) k') ?_
  show Runs p.tables e below _ (T6_.setTop (mkF m 26 #[.val (.ref a), .val (.int (3 : Int32)), .val (.ref b), .val (.int (3 : Int32)), .val (.int (5 : Int32)), .val (.int (3 : Int32)), .val (.int c3)] []))
  refine Runs.st (fun t' k' => XS.aloadN X6_.here hx rfl (hb hby d_jdk_52_method_21_26) rfl rfl k') ?_
  refine Runs.st (fun t' k' => XS.iloadN X6_.here hx rfl (hb hby d_jdk_52_method_21_27) rfl k') ?_
  refine Runs.st (fun t' k' => XS.iload X6_.here hx rfl (hb hby d_jdk_52_method_21_28) rfl k') ?_
  refine Runs.st (fun t' k' => XS.i2b X6_.here hx rfl (hb hby d_jdk_52_method_21_30) rfl k') ?_
  obtain ⟨cl8_, Ar8_, q8_, S8_, M8_, Ha8_, G8_⟩ := V_b
  have hin8_ : ¬ ((3 : Int32) < 0 ∨ cl8_.slots.size ≤ ((3 : Int32)).toNatClampNeg) := inb_of S8_ ⟨by decide, by decide⟩
  obtain ⟨T8_, h8_, X8_, e8_, W8_, st8_⟩ := stB X6_ hx hZ e6_ Ar8_ (j := (3 : Int32)) hin8_ (g := (mkF m 31 #[.val (.ref a), .val (.int (3 : Int32)), .val (.ref b), .val (.int (3 : Int32)), .val (.int (5 : Int32)), .val (.int (3 : Int32)), .val (.int c3)] [(.int (c3.toInt8.toInt32)), (.int (3 : Int32)), (.ref b)])) rfl rfl (hb hby d_jdk_52_method_21_31)
  refine Runs.st (st8_) ?_
  have V_b := Arv.set Ar8_ q8_ S8_ M8_ Ha8_ G8_ (fits_nar_byte _) W8_ 3 rfl (Nat.le_of_ble_eq_true rfl)
  replace V_a := V_a.other W8_ ne_a_b
  replace sz := Nat.le_trans sz (Keep.of_wr W8_).1
  have N8_ := Fr.snoc X8_ N6_ g_b
  replace K := K.wr W8_ (Or.inl (List.mem_of_getElem? (i := 0) rfl))
  show Runs p.tables e below _ (T8_.setTop (mkF m 32 #[.val (.ref a), .val (.int (3 : Int32)), .val (.ref b), .val (.int (3 : Int32)), .val (.int (5 : Int32)), .val (.int (3 : Int32)), .val (.int c3)] []))
  refine Runs.st (fun t' k' => XS.iinc X8_.here hx rfl (hb hby d_jdk_52_method_21_32) rfl (l' := #[.val (.ref a), .val (.int ((3 : Int32) + (1 : Int32))), .val (.ref b), .val (.int (3 : Int32)), .val (.int (5 : Int32)), .val (.int (3 : Int32)), .val (.int c3)]) rfl k') ?_
  refine Runs.st (fun t' k' => XS.iinc X8_.here hx rfl (hb hby d_jdk_52_method_21_35) rfl (l' := #[.val (.ref a), .val (.int ((3 : Int32) + (1 : Int32))), .val (.ref b), .val (.int ((3 : Int32) + (1 : Int32))), .val (.int (5 : Int32)), .val (.int (3 : Int32)), .val (.int c3)]) rfl k') ?_
  refine Runs.st (fun t' k' => XS.iinc X8_.here hx rfl (hb hby d_jdk_52_method_21_38) rfl (l' := #[.val (.ref a), .val (.int ((3 : Int32) + (1 : Int32))), .val (.ref b), .val (.int ((3 : Int32) + (1 : Int32))), .val (.int (5 : Int32)), .val (.int ((3 : Int32) + (1 : Int32))), .val (.int c3)]) rfl k') ?_
  show Runs p.tables e below _ (T8_.setTop (mkF m 41 #[.val (.ref a), .val (.int ((3 : Int32) + (1 : Int32))), .val (.ref b), .val (.int ((3 : Int32) + (1 : Int32))), .val (.int (5 : Int32)), .val (.int ((3 : Int32) + (1 : Int32))), .val (.int c3)] []))
  rw [show ((3 : Int32) + (1 : Int32)) = (4 : Int32) from rfl]
  show Runs p.tables e below _ (T8_.setTop (mkF m 41 #[.val (.ref a), .val (.int (4 : Int32)), .val (.ref b), .val (.int (4 : Int32)), .val (.int (5 : Int32)), .val (.int (4 : Int32)), .val (.int c3)] []))
  refine Runs.st (fun t' k' => XS.goto X8_.here hx rfl (pc0 := 41) (pc' := 3) rfl (hb hby d_jdk_52_method_21_41) (by decide) (by decide) k') ?_
  refine Runs.st (fun t' k' => XS.iload X8_.here hx rfl (hb hby d_jdk_52_method_21_3) rfl k') ?_
  show Runs p.tables e below _ (T8_.setTop (mkF m 5 #[.val (.ref a), .val (.int (4 : Int32)), .val (.ref b), .val (.int (4 : Int32)), .val (.int (5 : Int32)), .val (.int (4 : Int32)), .val (.int c3)] [(.int (4 : Int32))]))
  refine Runs.st (fun t' k' => XS.iload X8_.here hx rfl (hb hby d_jdk_52_method_21_5) rfl k') ?_
  refine Runs.st (fun t' k' => XS.icmpNo X8_.here hx rfl (hb hby d_jdk_52_method_21_7) rfl (tlt (by decide)).2.1 k') ?_
  show Runs p.tables e below _ (T8_.setTop (mkF m 10 #[.val (.ref a), .val (.int (4 : Int32)), .val (.ref b), .val (.int (4 : Int32)), .val (.int (5 : Int32)), .val (.int (4 : Int32)), .val (.int c3)] []))
  refine Runs.st (fun t' k' => XS.aloadN X8_.here hx rfl (hb hby d_jdk_52_method_21_10) rfl rfl k') ?_
  refine Runs.st (fun t' k' => XS.iloadN X8_.here hx rfl (hb hby d_jdk_52_method_21_11) rfl k') ?_
  obtain ⟨cl9_, Ar9_, -, S9_, M9_, Ha9_, -⟩ := id V_a
  have hin9_ : ¬ ((4 : Int32) < 0 ∨ cl9_.slots.size ≤ ((4 : Int32)).toNatClampNeg) := inb_of S9_ ⟨by decide, by decide⟩
  refine Runs.st (X8_.caload hx (j := (4 : Int32)) (v := (.int c4)) (by rw [e8_]; exact Ar9_.1) (State.isArrayOf_alike hZ.alike Ar9_.2.1) Ar9_.2.2 hin9_ (Ha9_.at hin9_ rfl) (g := (mkF m 12 #[.val (.ref a), .val (.int (4 : Int32)), .val (.ref b), .val (.int (4 : Int32)), .val (.int (5 : Int32)), .val (.int (4 : Int32)), .val (.int c3)] [(.int (4 : Int32)), (.ref a)])) rfl rfl (hb hby d_jdk_52_method_21_12)) ?_
  show Runs p.tables e below _ (T8_.setTop (mkF m 13 #[.val (.ref a), .val (.int (4 : Int32)), .val (.ref b), .val (.int (4 : Int32)), .val (.int (5 : Int32)), .val (.int (4 : Int32)), .val (.int c3)] [(.int c4)]))
  refine Runs.st (fun t' k' => XS.istore X8_.here hx rfl (hb hby d_jdk_52_method_21_13) rfl (l' := #[.val (.ref a), .val (.int (4 : Int32)), .val (.ref b), .val (.int (4 : Int32)), .val (.int (5 : Int32)), .val (.int (4 : Int32)), .val (.int c4)]) rfl k') ?_
  refine Runs.st (fun t' k' => XS.iload X8_.here hx rfl (hb hby d_jdk_52_method_21_15) rfl k') ?_
  refine Runs.st (fun t' k' => XS.sipush X8_.here hx rfl (hb hby d_jdk_52_method_21_17) k') ?_
  refine Runs.st (fun t' k' => XS.icmpYes X8_.here hx rfl (pc0 := 20) (pc' := 26) rfl (hb hby d_jdk_52_method_21_20) rfl (flt u4).2.2.2 (by decide) (by decide) k') ?_
  show Runs p.tables e below _ (T8_.setTop (mkF m 26 #[.val (.ref a), .val (.int (4 : Int32)), .val (.ref b), .val (.int (4 : Int32)), .val (.int (5 : Int32)), .val (.int (4 : Int32)), .val (.int c4)] []))
  refine Runs.st (fun t' k' => XS.aloadN X8_.here hx rfl (hb hby d_jdk_52_method_21_26) rfl rfl k') ?_
  refine Runs.st (fun t' k' => XS.iloadN X8_.here hx rfl (hb hby d_jdk_52_method_21_27) rfl k') ?_
  refine Runs.st (fun t' k' => XS.iload X8_.here hx rfl (hb hby d_jdk_52_method_21_28) rfl k') ?_
  refine Runs.st (fun t' k' => XS.i2b X8_.here hx rfl (hb hby d_jdk_52_method_21_30) rfl k') ?_
  obtain ⟨cl10_, Ar10_, q10_, S10_, M10_, Ha10_, G10_⟩ := V_b
  have hin10_ : ¬ ((4 : Int32) < 0 ∨ cl10_.slots.size ≤ ((4 : Int32)).toNatClampNeg) := inb_of S10_ ⟨by decide, by decide⟩
  obtain ⟨T10_, h10_, X10_, e10_, W10_, st10_⟩ := stB X8_ hx hZ e8_ Ar10_ (j := (4 : Int32)) hin10_ (g := (mkF m 31 #[.val (.ref a), .val (.int (4 : Int32)), .val (.ref b), .val (.int (4 : Int32)), .val (.int (5 : Int32)), .val (.int (4 : Int32)), .val (.int c4)] [(.int (c4.toInt8.toInt32)), (.int (4 : Int32)), (.ref b)])) rfl rfl (hb hby d_jdk_52_method_21_31)
  refine Runs.st (st10_) ?_
  have V_b := Arv.set Ar10_ q10_ S10_ M10_ Ha10_ G10_ (fits_nar_byte _) W10_ 4 rfl (Nat.le_of_ble_eq_true rfl)
  replace V_a := V_a.other W10_ ne_a_b
  replace sz := Nat.le_trans sz (Keep.of_wr W10_).1
  have N10_ := Fr.snoc X10_ N8_ g_b
  replace K := K.wr W10_ (Or.inl (List.mem_of_getElem? (i := 0) rfl))
  show Runs p.tables e below _ (T10_.setTop (mkF m 32 #[.val (.ref a), .val (.int (4 : Int32)), .val (.ref b), .val (.int (4 : Int32)), .val (.int (5 : Int32)), .val (.int (4 : Int32)), .val (.int c4)] []))
  refine Runs.st (fun t' k' => XS.iinc X10_.here hx rfl (hb hby d_jdk_52_method_21_32) rfl (l' := #[.val (.ref a), .val (.int ((4 : Int32) + (1 : Int32))), .val (.ref b), .val (.int (4 : Int32)), .val (.int (5 : Int32)), .val (.int (4 : Int32)), .val (.int c4)]) rfl k') ?_
  refine Runs.st (fun t' k' => XS.iinc X10_.here hx rfl (hb hby d_jdk_52_method_21_35) rfl (l' := #[.val (.ref a), .val (.int ((4 : Int32) + (1 : Int32))), .val (.ref b), .val (.int ((4 : Int32) + (1 : Int32))), .val (.int (5 : Int32)), .val (.int (4 : Int32)), .val (.int c4)]) rfl k') ?_
  refine Runs.st (fun t' k' => XS.iinc X10_.here hx rfl (hb hby d_jdk_52_method_21_38) rfl (l' := #[.val (.ref a), .val (.int ((4 : Int32) + (1 : Int32))), .val (.ref b), .val (.int ((4 : Int32) + (1 : Int32))), .val (.int (5 : Int32)), .val (.int ((4 : Int32) + (1 : Int32))), .val (.int c4)]) rfl k') ?_
  show Runs p.tables e below _ (T10_.setTop (mkF m 41 #[.val (.ref a), .val (.int ((4 : Int32) + (1 : Int32))), .val (.ref b), .val (.int ((4 : Int32) + (1 : Int32))), .val (.int (5 : Int32)), .val (.int ((4 : Int32) + (1 : Int32))), .val (.int c4)] []))
  rw [show ((4 : Int32) + (1 : Int32)) = (5 : Int32) from rfl]
  show Runs p.tables e below _ (T10_.setTop (mkF m 41 #[.val (.ref a), .val (.int (5 : Int32)), .val (.ref b), .val (.int (5 : Int32)), .val (.int (5 : Int32)), .val (.int (5 : Int32)), .val (.int c4)] []))
  refine Runs.st (fun t' k' => XS.goto X10_.here hx rfl (pc0 := 41) (pc' := 3) rfl (hb hby d_jdk_52_method_21_41) (by decide) (by decide) k') ?_
  refine Runs.st (fun t' k' => XS.iload X10_.here hx rfl (hb hby d_jdk_52_method_21_3) rfl k') ?_
  show Runs p.tables e below _ (T10_.setTop (mkF m 5 #[.val (.ref a), .val (.int (5 : Int32)), .val (.ref b), .val (.int (5 : Int32)), .val (.int (5 : Int32)), .val (.int (5 : Int32)), .val (.int c4)] [(.int (5 : Int32))]))
  refine Runs.st (fun t' k' => XS.iload X10_.here hx rfl (hb hby d_jdk_52_method_21_5) rfl k') ?_
  refine Runs.st (fun t' k' => XS.icmpYes X10_.here hx rfl (pc0 := 7) (pc' := 44) rfl (hb hby d_jdk_52_method_21_7) rfl (flt (by decide)).2.1 (by decide) (by decide) k') ?_
  show Runs p.tables e below _ (T10_.setTop (mkF m 44 #[.val (.ref a), .val (.int (5 : Int32)), .val (.ref b), .val (.int (5 : Int32)), .val (.int (5 : Int32)), .val (.int (5 : Int32)), .val (.int c4)] []))
  refine Runs.st (fun t' k' => XS.iload X10_.here hx rfl (hb hby d_jdk_52_method_21_44) rfl k') ?_
  refine Runs.ret X10_ hlk (v := (some (.int (5 : Int32)))) (fun h => by rw [hret] at h; cases h) (by decide) (by decide) ?_ (fun fs hr => retI X10_ hx hret (hb hby d_jdk_52_method_21_46) hr)
  try rw [e10_]
  exact ⟨rfl, N10_, K, V_b⟩
def Q_rmCB5 (Z : State) (a : Addr) (c0 c1 c2 c3 c4 : Int32) (k1 : ClassId) (h0 : Heap) (n0 : Nat) : Option Value → Heap → List Loc → Prop := (fun v h L => ∃ b k2, v = some (.ref b) ∧ Fr n0 L ∧ Keep h0 h [] ∧ h0.size ≤ b ∧ Arv Z h b k2 .byte (5 : Int32) [(.int (nar .byte (c0.toInt8.toInt32))), (.int (nar .byte (c1.toInt8.toInt32))), (.int (nar .byte (c2.toInt8.toInt32))), (.int (nar .byte (c3.toInt8.toInt32))), (.int (nar .byte (c4.toInt8.toInt32)))] (.int (0 : Int32)))
set_option maxRecDepth 65536 in
set_option maxHeartbeats 40000000 in
theorem rmCB5 (l : Launch) (Z : State) (a0 : Array Value) (hw : ∀ d ∈ tables_1, d.before a0 Z = true) (ws : List Jvm.Cond) (a : Addr) (c0 c1 c2 c3 c4 : Int32) (k1 : ClassId) (h0 : Heap) (n0 : Nat) (Z0 : n0 ≤ h0.size) (V_a : Arv Z h0 a k1 .char (5 : Int32) [(.int c0), (.int c1), (.int c2), (.int c3), (.int c4)] (.int (0 : Int32))) (u0 : ¬ ((255 : Int32) < c0)) (u1 : ¬ ((255 : Int32) < c1)) (u2 : ¬ ((255 : Int32) < c2)) (u3 : ¬ ((255 : Int32) < c3)) (u4 : ¬ ((255 : Int32) < c4)) :
    MetFree l (⟨"java/lang/StringUTF16", "compress", "([CII)[B"⟩ : MethodName) (head1 (Jvm.Cond.code (⟨"java/lang/StringUTF16", "compress", "([CII)[B"⟩ : MethodName) jdk_52_method_16_code 6 (some (.array .byte)) :: ws) ({ frames := 1, cells := 1, slots := 5, locals := 18 } : Room)) (fun ar_ U => ar_ = #[(.ref a), (.int (0 : Int32)), (.int (5 : Int32))] ∧ Z.Warmed39 U.vm ∧ U.heap = h0) (fun _ _ _ _ _ => True) (fun _ U o U' => Phi U (Q_rmCB5 Z a c0 c1 c2 c3 c4 k1 h0 n0) ({ frames := 1, cells := 1, slots := 5, locals := 18 } : Room).cells ({ frames := 1, cells := 1, slots := 5, locals := 18 } : Room).slots o U') := by
  refine MetFree.of_bodySF (plainFor_of_name pn_java_lang_StringUTF16) hisR ?_
  intro p e s m args below meth c s₁ Bd hml0 hP hK
  obtain ⟨rfl, hZ, hh⟩ := hP
  have hx := Bd.exec
  have hby := Bd.bytes
  have hlk := Bd.notSynchronized
  have hml : c.maxLocals = 6 := hml0
  have hown : s.vm.findClass "java/lang/StringUTF16" = some m.cls := findClass_of_methodNamed Bd.named
  have hown0 := hown
  have hnm := (name_of_methodNamed Bd.named Bd.method).1
  have hret := Bd.returns
  have X0 : Stand p l e ({ frames := 1, cells := 1, slots := 5, locals := 18 } : Room) s m #[(.ref a), (.int (0 : Int32)), (.int (5 : Int32))] below meth c s₁ [] 0 0 := Stand.of_body Bd
  have e0 : s₁.heap = h0 := by rw [← hh, Bd.state]; rfl
  have N0 := Fr.nil n0
  have sz := Z0
  have K := Keep.refl h0 []
  show Runs p.tables e below (Phi s (Q_rmCB5 Z a c0 c1 c2 c3 c4 k1 h0 n0) ({ frames := 1, cells := 1, slots := 5, locals := 18 } : Room).cells ({ frames := 1, cells := 1, slots := 5, locals := 18 } : Room).slots) _
  refine Runs.st (fun t' k' => castTop (ef_jdk_52_method_16_RII m a (0 : Int32) (5 : Int32) ) k') ?_
  show Runs p.tables e below _ (s₁.setTop (mkF m 0 #[.val (.ref a), .val (.int (0 : Int32)), .val (.int (5 : Int32)), .unset, .unset, .unset] []))
  refine Runs.st (fun t' k' => XS.iloadN X0.here hx rfl (hb hby d_jdk_52_method_16_0) rfl k') ?_
  obtain ⟨T1_, h1_, k1_, X1_, e1_, E1_, A1_, st1_⟩ := newP X0 hx hZ (hw _ (List.mem_of_getElem? (i := 20) rfl)) e0 (g := (mkF m 1 #[.val (.ref a), .val (.int (0 : Int32)), .val (.int (5 : Int32)), .unset, .unset, .unset] [(.int (5 : Int32))])) rfl (hb hby d_jdk_52_method_16_1) rfl (by decide) (cap := 5) (by decide) (by decide) (by decide) (by decide)
  refine Runs.st (st1_) ?_
  obtain ⟨b, g1_⟩ : ∃ z, z = h0.size := ⟨_, rfl⟩
  rw [← g1_] at A1_
  try rw [← g1_]
  have g_b : n0 ≤ b := Nat.le_trans sz (Nat.le_of_eq g1_.symm)
  have sz_b : h0.size ≤ b := Nat.le_trans K.1 (Nat.le_of_eq g1_.symm)
  have ne_a_b : a ≠ b := Nat.ne_of_lt (Nat.lt_of_lt_of_le V_a.lt (Nat.le_of_eq g1_.symm))
  replace V_a := V_a.ext E1_
  replace sz := Nat.le_trans sz E1_.1
  replace K := K.ext E1_
  have V_b : Arv Z h1_ b k1_ .byte (5 : Int32) [(.int (0 : Int32)), (.int (0 : Int32)), (.int (0 : Int32)), (.int (0 : Int32)), (.int (0 : Int32))] (.int (0 : Int32)) := (Arv.new A1_ (by decide)).pad (pad_rep [] (.int (0 : Int32)) 5)
  show Runs p.tables e below _ (T1_.setTop (mkF m 3 #[.val (.ref a), .val (.int (0 : Int32)), .val (.int (5 : Int32)), .unset, .unset, .unset] [(.ref b)]))
  refine Runs.st (fun t' k' => XS.astoreN X1_.here hx rfl (hb hby d_jdk_52_method_16_3) rfl rfl (l' := #[.val (.ref a), .val (.int (0 : Int32)), .val (.int (5 : Int32)), .val (.ref b), .unset, .unset]) rfl k') ?_
  refine Runs.st (fun t' k' => XS.aloadN X1_.here hx rfl (hb hby d_jdk_52_method_16_4) rfl rfl k') ?_
  refine Runs.st (fun t' k' => XS.iloadN X1_.here hx rfl (hb hby d_jdk_52_method_16_5) rfl k') ?_
  refine Runs.st (fun t' k' => XS.aloadN X1_.here hx rfl (hb hby d_jdk_52_method_16_6) rfl rfl k') ?_
  refine Runs.st (fun t' k' => XS.iconst X1_.here hx rfl (hb hby d_jdk_52_method_16_7) k') ?_
  show Runs p.tables e below _ (T1_.setTop (mkF m 8 #[.val (.ref a), .val (.int (0 : Int32)), .val (.int (5 : Int32)), .val (.ref b), .unset, .unset] [(.int (0 : Int32)), (.ref b), (.int (0 : Int32)), (.ref a)]))
  refine Runs.st (fun t' k' => XS.iloadN X1_.here hx rfl (hb hby d_jdk_52_method_16_8) rfl k') ?_
  obtain ⟨_, _, ⟨T2_, L2_, k2_, n2_⟩, -, X2_, ⟨Lc2_, hQ2_, l2_, y2_, z2_⟩, st2_⟩ := Jvm.LawKit.callS X1_ hx (y := (⟨"java/lang/StringUTF16", "compress", "([CI[BII)I"⟩ : MethodName)) hown (mvT hZ (hw _ (List.mem_of_getElem? (i := 21) rfl))) (mvT hZ (hw _ (List.mem_of_getElem? (i := 22) rfl))) (mvT hZ (hw _ (List.mem_of_getElem? (i := 18) rfl))) (mvT hZ (hw _ (List.mem_of_getElem? (i := 23) rfl))) (by decide) (backOf (W := 0) (rmCA5 l Z a0 hw [] a b c0 c1 c2 c3 c4 k1 _ h1_ n0 sz V_a V_b ne_a_b g_b u0 u1 u2 u3 u4) hZ (hw _ (List.mem_of_getElem? (i := 23) rfl)) (hw _ (List.mem_of_getElem? (i := 18) rfl)) (by decide) (by decide)) (g := (mkF m 9 #[.val (.ref a), .val (.int (0 : Int32)), .val (.int (5 : Int32)), .val (.ref b), .unset, .unset] [(.int (5 : Int32)), (.int (0 : Int32)), (.ref b), (.int (0 : Int32)), (.ref a)])) rfl (by rw [hml]; rfl) (argsL := [(.ref a), (.int (0 : Int32)), (.ref b), (.int (0 : Int32)), (.int (5 : Int32))]) (rest := []) (lenOf pd__28_5bCI_5bBII_29I rfl) rfl (by show 2 * 0 + _ ≤ _; exact Nat.le_of_eq rfl) (hb hby d_jdk_52_method_16_9) (fun _ _ => ⟨rfl, e1_, (by decide : 1 + 0 ≤ _), (by decide : 5 + 0 ≤ _)⟩)
  dsimp only [Pt.U, Pt.locs, Pt.cells, Pt.slots] at X2_ l2_ y2_ z2_ st2_ hQ2_
  subst l2_ y2_ z2_
  obtain ⟨rfl, N2_q, K2_, V_b⟩ := hQ2_
  have N2_ := Fr.app N0 N2_q
  refine Runs.st (st2_) ?_
  replace X2_ := wider X2_ (c' := 1) (s' := 5) (by decide) (by decide)
  replace V_a := V_a.keep K2_ (ninS ne_a_b nin0)
  replace sz := Nat.le_trans sz K2_.1
  replace K := K.trans K2_ (allS (Or.inr sz_b) all0)
  show Runs p.tables e below _ (T2_.setTop (mkF m 12 #[.val (.ref a), .val (.int (0 : Int32)), .val (.int (5 : Int32)), .val (.ref b), .unset, .unset] [(.int (5 : Int32))]))
  refine Runs.st (fun t' k' => XS.istore X2_.here hx rfl (hb hby d_jdk_52_method_16_12) rfl (l' := #[.val (.ref a), .val (.int (0 : Int32)), .val (.int (5 : Int32)), .val (.ref b), .val (.int (5 : Int32)), .unset]) rfl k') ?_
  refine Runs.st (fun t' k' => XS.iload X2_.here hx rfl (hb hby d_jdk_52_method_16_14) rfl k') ?_
  refine Runs.st (fun t' k' => XS.iloadN X2_.here hx rfl (hb hby d_jdk_52_method_16_16) rfl k') ?_
  refine Runs.st (fun t' k' => XS.icmpYes X2_.here hx rfl (pc0 := 17) (pc' := 57) rfl (hb hby d_jdk_52_method_16_17) rfl (teq rfl).1 (by decide) (by decide) k') ?_
  show Runs p.tables e below _ (T2_.setTop (mkF m 57 #[.val (.ref a), .val (.int (0 : Int32)), .val (.int (5 : Int32)), .val (.ref b), .val (.int (5 : Int32)), .unset] []))
  refine Runs.st (fun t' k' => XS.aloadN X2_.here hx rfl (hb hby d_jdk_52_method_16_57) rfl rfl k') ?_
  refine Runs.ret X2_ hlk (v := (some (.ref b))) (fun h => by rw [hret] at h; cases h) (by decide) (by decide) ?_ (fun fs hr => retOut X2_ hx hret rfl (Or.inr (Or.inr (Or.inr (Or.inr ⟨rfl, rfl, rfl⟩)))) (hb hby d_jdk_52_method_16_58) hr)
  exact ⟨b, _, rfl, N2_, K, sz_b, V_b⟩
def Q_rmCd5 (Z : State) (b : Addr) (k2 : ClassId) (vs : List Value) (h0 : Heap) (n0 : Nat) : Option Value → Heap → List Loc → Prop := (fun v h L => v = some (.int (0 : Int32)) ∧ Fr n0 L ∧ h = h0)
set_option maxRecDepth 65536 in
set_option maxHeartbeats 40000000 in
theorem rmCd5 (l : Launch) (Z : State) (a0 : Array Value) (hw : ∀ d ∈ tables_1, d.before a0 Z = true) (ws : List Jvm.Cond) (b : Addr) (k2 : ClassId) (vs : List Value) (h0 : Heap) (n0 : Nat) (Z0 : n0 ≤ h0.size) (V_b : Arv Z h0 b k2 .byte (5 : Int32) vs (.int (0 : Int32))) :
    MetFree l (⟨"java/lang/StringUTF16", "coderFromArrayLen", "([BI)B"⟩ : MethodName) (head1 (Jvm.Cond.code (⟨"java/lang/StringUTF16", "coderFromArrayLen", "([BI)B"⟩ : MethodName) jdk_52_method_15_code 2 (some .byte) :: ws) ({ frames := 0, cells := 0, slots := 0, locals := 0 } : Room)) (fun ar_ U => ar_ = #[(.ref b), (.int (5 : Int32))] ∧ Z.Warmed39 U.vm ∧ U.heap = h0) (fun _ _ _ _ _ => True) (fun _ U o U' => Phi U (Q_rmCd5 Z b k2 vs h0 n0) ({ frames := 0, cells := 0, slots := 0, locals := 0 } : Room).cells ({ frames := 0, cells := 0, slots := 0, locals := 0 } : Room).slots o U') := by
  refine MetFree.of_bodySF (plainFor_of_name pn_java_lang_StringUTF16) hisR ?_
  intro p e s m args below meth c s₁ Bd hml0 hP hK
  obtain ⟨rfl, hZ, hh⟩ := hP
  have hx := Bd.exec
  have hby := Bd.bytes
  have hlk := Bd.notSynchronized
  have hml : c.maxLocals = 2 := hml0
  have hown : s.vm.findClass "java/lang/StringUTF16" = some m.cls := findClass_of_methodNamed Bd.named
  have hown0 := hown
  have hnm := (name_of_methodNamed Bd.named Bd.method).1
  have hret := Bd.returns
  have X0 : Stand p l e ({ frames := 0, cells := 0, slots := 0, locals := 0 } : Room) s m #[(.ref b), (.int (5 : Int32))] below meth c s₁ [] 0 0 := Stand.of_body Bd
  have e0 : s₁.heap = h0 := by rw [← hh, Bd.state]; rfl
  have N0 := Fr.nil n0
  have sz := Z0
  have K := Keep.refl h0 []
  show Runs p.tables e below (Phi s (Q_rmCd5 Z b k2 vs h0 n0) ({ frames := 0, cells := 0, slots := 0, locals := 0 } : Room).cells ({ frames := 0, cells := 0, slots := 0, locals := 0 } : Room).slots) _
  refine Runs.st (fun t' k' => castTop (ef_jdk_52_method_15_RI m b (5 : Int32) ) k') ?_
  show Runs p.tables e below _ (s₁.setTop (mkF m 0 #[.val (.ref b), .val (.int (5 : Int32))] []))
  refine Runs.st (fun t' k' => XS.iloadN X0.here hx rfl (hb hby d_jdk_52_method_15_0) rfl k') ?_
  refine Runs.st (fun t' k' => XS.aloadN X0.here hx rfl (hb hby d_jdk_52_method_15_1) rfl rfl k') ?_
  obtain ⟨cl1_, Ar1_, -, S1_, M1_, -, -⟩ := id V_b
  refine Runs.st (X0.arraylength hx (by rw [e0]; exact Ar1_.1) (State.isArrayOf_alike hZ.alike Ar1_.2.1) (g := (mkF m 2 #[.val (.ref b), .val (.int (5 : Int32))] [(.ref b), (.int (5 : Int32))])) rfl rfl (hb hby d_jdk_52_method_15_2)) ?_
  rw [len_of S1_ M1_]
  show Runs p.tables e below _ (s₁.setTop (mkF m 3 #[.val (.ref b), .val (.int (5 : Int32))] [(.int (5 : Int32)), (.int (5 : Int32))]))
  refine Runs.st (fun t' k' => XS.isub X0.here hx rfl (hb hby d_jdk_52_method_15_3) rfl k') ?_
  refine Runs.st (fun t' k' => XS.bipush X0.here hx rfl (hb hby d_jdk_52_method_15_4) k') ?_
  refine Runs.st (fun t' k' => XS.iushr X0.here hx rfl (hb hby d_jdk_52_method_15_6) rfl k') ?_
  refine Runs.st (fun t' k' => XS.i2b X0.here hx rfl (hb hby d_jdk_52_method_15_7) rfl k') ?_
  refine Runs.ret X0 hlk (v := (some (.int (nar .byte (((((5 : Int32) - (5 : Int32)).toUInt32 >>> ((31 : Int32) &&& 31).toUInt32).toInt32).toInt8.toInt32))))) (fun h => by rw [hret] at h; cases h) (by decide) (by decide) ?_ (fun fs hr => retN X0 hx (t := .byte) hret (by simp) (hb hby d_jdk_52_method_15_8) hr)
  try rw [e0]
  exact ⟨congrArg (fun z => some (Value.int z)) (by decide), N0, rfl⟩
def Q_rmID5 (Z : State) (a : Addr) (d : Addr) (c0 c1 c2 c3 c4 : Int32) (k1 : ClassId) (zc : Int32) (h0 : Heap) (n0 : Nat) : Option Value → Heap → List Loc → Prop := (fun v h L => v = none ∧ Fr n0 L ∧ Keep h0 h [a] ∧ Exa Z h a "java/lang/String" ∧ Fld Z h a "java/lang/String" "coder" "B" (.int (0 : Int32)) ∧ ∃ b k2, h0.size ≤ b ∧ Fld Z h a "java/lang/String" "value" "[B" (.ref b) ∧ Arv Z h b k2 .byte (5 : Int32) [(.int (nar .byte (c0.toInt8.toInt32))), (.int (nar .byte (c1.toInt8.toInt32))), (.int (nar .byte (c2.toInt8.toInt32))), (.int (nar .byte (c3.toInt8.toInt32))), (.int (nar .byte (c4.toInt8.toInt32)))] (.int (0 : Int32)))
set_option maxRecDepth 65536 in
set_option maxHeartbeats 40000000 in
theorem rmID5 (l : Launch) (Z : State) (a0 : Array Value) (hw : ∀ d ∈ tables_1, d.before a0 Z = true) (ws : List Jvm.Cond) (a : Addr) (d : Addr) (c0 c1 c2 c3 c4 : Int32) (k1 : ClassId) (zc : Int32) (h0 : Heap) (n0 : Nat) (Z0 : n0 ≤ h0.size) (E_a : Exa Z h0 a "java/lang/String") (F_v : Fld Z h0 a "java/lang/String" "value" "[B" .null) (F_c : Fld Z h0 a "java/lang/String" "coder" "B" (.int (0 : Int32))) (g_a : n0 ≤ a) (V_d : Arv Z h0 d k1 .char (5 : Int32) [(.int c0), (.int c1), (.int c2), (.int c3), (.int c4)] (.int (0 : Int32))) (Sc : Sta Z h0 "java/lang/String" "COMPACT_STRINGS" "Z" (.int zc)) (hzc : ¬ zc = 0) (u0 : ¬ ((255 : Int32) < c0)) (u1 : ¬ ((255 : Int32) < c1)) (u2 : ¬ ((255 : Int32) < c2)) (u3 : ¬ ((255 : Int32) < c3)) (u4 : ¬ ((255 : Int32) < c4)) :
    MetFree l (⟨"java/lang/String", "<init>", "([CIILjava/lang/Void;)V"⟩ : MethodName) (head1 (Jvm.Cond.code (⟨"java/lang/String", "<init>", "([CIILjava/lang/Void;)V"⟩ : MethodName) jdk_42_method_149_code 6 none :: ws) ({ frames := 2, cells := 1, slots := 5, locals := 35 } : Room)) (fun ar_ U => ar_ = #[(.ref a), (.ref d), (.int (0 : Int32)), (.int (5 : Int32)), .null] ∧ Z.Warmed39 U.vm ∧ U.heap = h0) (fun _ _ _ _ _ => True) (fun _ U o U' => Phi U (Q_rmID5 Z a d c0 c1 c2 c3 c4 k1 zc h0 n0) ({ frames := 2, cells := 1, slots := 5, locals := 35 } : Room).cells ({ frames := 2, cells := 1, slots := 5, locals := 35 } : Room).slots o U') := by
  refine MetFree.of_bodySF (plainFor_of_name pn_java_lang_String) hisR ?_
  intro p e s m args below meth c s₁ Bd hml0 hP hK
  obtain ⟨rfl, hZ, hh⟩ := hP
  have hx := Bd.exec
  have hby := Bd.bytes
  have hlk := Bd.notSynchronized
  have hml : c.maxLocals = 6 := hml0
  have hown : s.vm.findClass "java/lang/String" = some m.cls := findClass_of_methodNamed Bd.named
  have hown0 := hown
  have hnm := (name_of_methodNamed Bd.named Bd.method).1
  have hret := Bd.returns
  have X0 : Stand p l e ({ frames := 2, cells := 1, slots := 5, locals := 35 } : Room) s m #[(.ref a), (.ref d), (.int (0 : Int32)), (.int (5 : Int32)), .null] below meth c s₁ [] 0 0 := Stand.of_body Bd
  have e0 : s₁.heap = h0 := by rw [← hh, Bd.state]; rfl
  have N0 := Fr.nil n0
  have sz := Z0
  have K := Keep.refl h0 [a]
  show Runs p.tables e below (Phi s (Q_rmID5 Z a d c0 c1 c2 c3 c4 k1 zc h0 n0) ({ frames := 2, cells := 1, slots := 5, locals := 35 } : Room).cells ({ frames := 2, cells := 1, slots := 5, locals := 35 } : Room).slots) _
  refine Runs.st (fun t' k' => castTop (ef_jdk_42_method_149_RRIIN m a d (0 : Int32) (5 : Int32) ) k') ?_
  show Runs p.tables e below _ (s₁.setTop (mkF m 0 #[.val (.ref a), .val (.ref d), .val (.int (0 : Int32)), .val (.int (5 : Int32)), .val .null, .unset] []))
  refine Runs.st (fun t' k' => XS.aloadN X0.here hx rfl (hb hby d_jdk_42_method_149_0) rfl rfl k') ?_
  obtain ⟨T1_, X1_, e1_, st1_⟩ := initO X0 hx hZ hown (hw _ (List.mem_of_getElem? (i := 12) rfl)) (hw _ (List.mem_of_getElem? (i := 13) rfl)) (hw _ (List.mem_of_getElem? (i := 14) rfl)) e0 (g := (mkF m 1 #[.val (.ref a), .val (.ref d), .val (.int (0 : Int32)), .val (.int (5 : Int32)), .val .null, .unset] [(.ref a)])) rfl (by rw [hml]; rfl) rfl (hb hby d_jdk_42_method_149_1) (by decide) (W := 0) (by show 2 * 0 + _ ≤ _; exact Nat.le_of_eq rfl) (by decide)
  refine Runs.st (st1_) ?_
  show Runs p.tables e below _ (T1_.setTop (mkF m 4 #[.val (.ref a), .val (.ref d), .val (.int (0 : Int32)), .val (.int (5 : Int32)), .val .null, .unset] []))
  refine Runs.st (fun t' k' => XS.iloadN X1_.here hx rfl (hb hby d_jdk_42_method_149_4) rfl k') ?_
  refine Runs.st (fun t' k' => XS.ifYes X1_.here hx rfl (pc0 := 5) (pc' := 27) rfl (hb hby d_jdk_42_method_149_5) rfl ((if0 _ _).trans (feq (by decide)).2) (by decide) (by decide) k') ?_
  show Runs p.tables e below _ (T1_.setTop (mkF m 27 #[.val (.ref a), .val (.ref d), .val (.int (0 : Int32)), .val (.int (5 : Int32)), .val .null, .unset] []))
  obtain ⟨T2_, X2_, e2_, st2_⟩ := getS2 X1_ hx hZ hown (host := "") (Or.inl (hw _ (List.mem_of_getElem? (i := 15) rfl))) Via.refl e1_ Sc (g := (mkF m 27 #[.val (.ref a), .val (.ref d), .val (.int (0 : Int32)), .val (.int (5 : Int32)), .val .null, .unset] [])) rfl (hb hby d_jdk_42_method_149_27)
  refine Runs.st (st2_) ?_
  show Runs p.tables e below _ (T2_.setTop (mkF m 30 #[.val (.ref a), .val (.ref d), .val (.int (0 : Int32)), .val (.int (5 : Int32)), .val .null, .unset] [(.int zc)]))
  refine Runs.st (fun t' k' => XS.ifNo X2_.here hx rfl (hb hby d_jdk_42_method_149_30) rfl ((if0 _ _).trans (feq hzc).1) k') ?_
  show Runs p.tables e below _ (T2_.setTop (mkF m 33 #[.val (.ref a), .val (.ref d), .val (.int (0 : Int32)), .val (.int (5 : Int32)), .val .null, .unset] []))
  refine Runs.st (fun t' k' => XS.aloadN X2_.here hx rfl (hb hby d_jdk_42_method_149_33) rfl rfl k') ?_
  refine Runs.st (fun t' k' => XS.iloadN X2_.here hx rfl (hb hby d_jdk_42_method_149_34) rfl k') ?_
  refine Runs.st (fun t' k' => XS.iloadN X2_.here hx rfl (hb hby d_jdk_42_method_149_35) rfl k') ?_
  have kz3_ := K.1
  have gz3_ := sz
  have lt3__a := E_a.lt
  obtain ⟨_, _, ⟨T3_, L3_, k3_, n3_⟩, -, X3_, ⟨Lc3_, hQ3_, l3_, y3_, z3_⟩, st3_⟩ := Jvm.LawKit.callS X2_ hx (y := (⟨"java/lang/StringUTF16", "compress", "([CII)[B"⟩ : MethodName)) hown (mvT hZ (hw _ (List.mem_of_getElem? (i := 16) rfl))) (mvT hZ (hw _ (List.mem_of_getElem? (i := 17) rfl))) (mvT hZ (hw _ (List.mem_of_getElem? (i := 18) rfl))) (mvT hZ (hw _ (List.mem_of_getElem? (i := 19) rfl))) (by decide) (backOf (W := 0) (rmCB5 l Z a0 hw [] d c0 c1 c2 c3 c4 k1 h0 n0 sz V_d u0 u1 u2 u3 u4) hZ (hw _ (List.mem_of_getElem? (i := 19) rfl)) (hw _ (List.mem_of_getElem? (i := 18) rfl)) (by decide) (by decide)) (g := (mkF m 36 #[.val (.ref a), .val (.ref d), .val (.int (0 : Int32)), .val (.int (5 : Int32)), .val .null, .unset] [(.int (5 : Int32)), (.int (0 : Int32)), (.ref d)])) rfl (by rw [hml]; rfl) (argsL := [(.ref d), (.int (0 : Int32)), (.int (5 : Int32))]) (rest := []) (lenOf pd__28_5bCII_29_5bB rfl) rfl (by show 2 * 0 + _ ≤ _; exact Nat.le_of_eq rfl) (hb hby d_jdk_42_method_149_36) (fun _ _ => ⟨rfl, e2_, (by decide : 0 + 1 ≤ _), (by decide : 0 + 5 ≤ _)⟩)
  dsimp only [Pt.U, Pt.locs, Pt.cells, Pt.slots] at X3_ l3_ y3_ z3_ st3_ hQ3_
  subst l3_ y3_ z3_
  obtain ⟨b, k2, rfl, N3_q, K3_, szb, V_b⟩ := hQ3_
  have N3_ := Fr.app N0 N3_q
  refine Runs.st (st3_) ?_
  replace X3_ := wider X3_ (c' := 1) (s' := 5) (by decide) (by decide)
  replace E_a := E_a.keep K3_
  replace F_v := F_v.keep K3_ nin0
  replace F_c := F_c.keep K3_ nin0
  replace sz := Nat.le_trans sz K3_.1
  replace K := K.trans K3_ all0
  have sz_b : h0.size ≤ b := Nat.le_trans kz3_ szb
  have g_b : n0 ≤ b := Nat.le_trans gz3_ szb
  have ne_a_b : a ≠ b := Nat.ne_of_lt (Nat.lt_of_lt_of_le lt3__a szb)
  show Runs p.tables e below _ (T3_.setTop (mkF m 39 #[.val (.ref a), .val (.ref d), .val (.int (0 : Int32)), .val (.int (5 : Int32)), .val .null, .unset] [(.ref b)]))
  refine Runs.st (fun t' k' => XS.astore X3_.here hx rfl (hb hby d_jdk_42_method_149_39) rfl rfl (l' := #[.val (.ref a), .val (.ref d), .val (.int (0 : Int32)), .val (.int (5 : Int32)), .val .null, .val (.ref b)]) rfl k') ?_
  refine Runs.st (fun t' k' => XS.aloadN X3_.here hx rfl (hb hby d_jdk_42_method_149_41) rfl rfl k') ?_
  refine Runs.st (fun t' k' => XS.aload X3_.here hx rfl (hb hby d_jdk_42_method_149_42) rfl rfl k') ?_
  refine Runs.st (fun t' k' => XS.iloadN X3_.here hx rfl (hb hby d_jdk_42_method_149_44) rfl k') ?_
  obtain ⟨_, _, ⟨T4_, L4_, k4_, n4_⟩, -, X4_, ⟨Lc4_, hQ4_, l4_, y4_, z4_⟩, st4_⟩ := Jvm.LawKit.callS X3_ hx (y := (⟨"java/lang/StringUTF16", "coderFromArrayLen", "([BI)B"⟩ : MethodName)) hown (mvT hZ (hw _ (List.mem_of_getElem? (i := 24) rfl))) (mvT hZ (hw _ (List.mem_of_getElem? (i := 25) rfl))) (mvT hZ (hw _ (List.mem_of_getElem? (i := 18) rfl))) (mvT hZ (hw _ (List.mem_of_getElem? (i := 26) rfl))) (by decide) (backOf (W := 1) (rmCd5 l Z a0 hw [] b k2 _ T3_.heap n0 sz V_b) hZ (hw _ (List.mem_of_getElem? (i := 26) rfl)) (hw _ (List.mem_of_getElem? (i := 18) rfl)) (by decide) (by decide)) (g := (mkF m 45 #[.val (.ref a), .val (.ref d), .val (.int (0 : Int32)), .val (.int (5 : Int32)), .val .null, .val (.ref b)] [(.int (5 : Int32)), (.ref b), (.ref a)])) rfl (by rw [hml]; rfl) (argsL := [(.ref b), (.int (5 : Int32))]) (rest := [(.ref a)]) (lenOf pd__28_5bBI_29B rfl) rfl (by show 2 * 0 + _ ≤ _; exact Nat.le_of_eq rfl) (hb hby d_jdk_42_method_149_45) (fun _ _ => ⟨rfl, rfl, (by decide : 1 + 0 ≤ _), (by decide : 5 + 0 ≤ _)⟩)
  dsimp only [Pt.U, Pt.locs, Pt.cells, Pt.slots] at X4_ l4_ y4_ z4_ st4_ hQ4_
  subst l4_ y4_ z4_
  obtain ⟨rfl, N4_q, e4_⟩ := hQ4_
  have N4_ := Fr.app N3_ N4_q
  refine Runs.st (st4_) ?_
  replace X4_ := wider X4_ (c' := 1) (s' := 5) (by decide) (by decide)
  show Runs p.tables e below _ (T4_.setTop (mkF m 48 #[.val (.ref a), .val (.ref d), .val (.int (0 : Int32)), .val (.int (5 : Int32)), .val .null, .val (.ref b)] [(.int (0 : Int32)), (.ref a)]))
  obtain ⟨T5_, h5_, X5_, e5_, W5_, st5_⟩ := putFN X4_ hx hZ hown (hw _ (List.mem_of_getElem? (i := 27) rfl)) Via.refl e4_ F_c E_a (Or.inr ⟨(hw _ (List.mem_of_getElem? (i := 28) rfl)), rfl, hnm⟩) (hw _ (List.mem_of_getElem? (i := 3) rfl)) (ty := .byte) (v' := .int (0 : Int32)) (by decide) rfl rfl (g := (mkF m 48 #[.val (.ref a), .val (.ref d), .val (.int (0 : Int32)), .val (.int (5 : Int32)), .val .null, .val (.ref b)] [(.int (0 : Int32)), (.ref a)])) rfl rfl (hb hby d_jdk_42_method_149_48)
  refine Runs.st (st5_) ?_
  replace F_c := F_c.same W5_
  replace E_a := Jvm.RoadKit.Exa.wr W5_ E_a
  replace F_v := F_v.other W5_ (Or.inr (slot_ne (Or.inr (hw _ (List.mem_of_getElem? (i := 30) rfl))) (Or.inr (hw _ (List.mem_of_getElem? (i := 28) rfl))) (by decide) (t := (.array .byte)) (t' := .byte) (by decide) (by decide)))
  replace V_b := V_b.other W5_ (Ne.symm ne_a_b)
  replace sz := Nat.le_trans sz (Keep.of_wr W5_).1
  have N5_ := Fr.snoc X5_ N4_ g_a
  replace K := K.wr W5_ (Or.inl (List.mem_of_getElem? (i := 0) rfl))
  show Runs p.tables e below _ (T5_.setTop (mkF m 51 #[.val (.ref a), .val (.ref d), .val (.int (0 : Int32)), .val (.int (5 : Int32)), .val .null, .val (.ref b)] []))
  refine Runs.st (fun t' k' => XS.aloadN X5_.here hx rfl (hb hby d_jdk_42_method_149_51) rfl rfl k') ?_
  refine Runs.st (fun t' k' => XS.aload X5_.here hx rfl (hb hby d_jdk_42_method_149_52) rfl rfl k') ?_
  obtain ⟨T6_, h6_, X6_, e6_, W6_, st6_⟩ := putF X5_ hx hZ hown (host := "") (Or.inl (hw _ (List.mem_of_getElem? (i := 29) rfl))) Via.refl e5_ F_v E_a (Or.inr ⟨(hw _ (List.mem_of_getElem? (i := 30) rfl)), rfl, hnm⟩) (hw _ (List.mem_of_getElem? (i := 3) rfl)) (ty := (.array .byte)) (by decide) rfl rfl (g := (mkF m 54 #[.val (.ref a), .val (.ref d), .val (.int (0 : Int32)), .val (.int (5 : Int32)), .val .null, .val (.ref b)] [(.ref b), (.ref a)])) rfl rfl (hb hby d_jdk_42_method_149_54)
  refine Runs.st (st6_) ?_
  replace F_v := F_v.same W6_
  replace E_a := Jvm.RoadKit.Exa.wr W6_ E_a
  replace V_b := V_b.other W6_ (Ne.symm ne_a_b)
  replace F_c := F_c.other W6_ (Or.inr (slot_ne (Or.inr (hw _ (List.mem_of_getElem? (i := 28) rfl))) (Or.inr (hw _ (List.mem_of_getElem? (i := 30) rfl))) (by decide) (t := .byte) (t' := (.array .byte)) (by decide) (by decide)))
  replace sz := Nat.le_trans sz (Keep.of_wr W6_).1
  have N6_ := Fr.snoc X6_ N5_ g_a
  replace K := K.wr W6_ (Or.inl (List.mem_of_getElem? (i := 0) rfl))
  show Runs p.tables e below _ (T6_.setTop (mkF m 57 #[.val (.ref a), .val (.ref d), .val (.int (0 : Int32)), .val (.int (5 : Int32)), .val .null, .val (.ref b)] []))
  refine Runs.ret X6_ hlk (v := none) (fun _ => rfl) (by decide) (by decide) ?_ (fun fs hr => X6_.returnOut hx hret (hb hby d_jdk_42_method_149_57) hr)
  try rw [e6_]
  exact ⟨rfl, N6_, K, E_a, F_c, b, k2, sz_b, F_v, V_b⟩
def Q_rmIC5 (Z : State) (a : Addr) (d : Addr) (c0 c1 c2 c3 c4 : Int32) (k1 : ClassId) (zc : Int32) (h0 : Heap) (n0 : Nat) : Option Value → Heap → List Loc → Prop := (fun v h L => v = none ∧ Fr n0 L ∧ Keep h0 h [a] ∧ Exa Z h a "java/lang/String" ∧ Fld Z h a "java/lang/String" "coder" "B" (.int (0 : Int32)) ∧ ∃ b k2, h0.size ≤ b ∧ Fld Z h a "java/lang/String" "value" "[B" (.ref b) ∧ Arv Z h b k2 .byte (5 : Int32) [(.int (nar .byte (c0.toInt8.toInt32))), (.int (nar .byte (c1.toInt8.toInt32))), (.int (nar .byte (c2.toInt8.toInt32))), (.int (nar .byte (c3.toInt8.toInt32))), (.int (nar .byte (c4.toInt8.toInt32)))] (.int (0 : Int32)))
set_option maxRecDepth 65536 in
set_option maxHeartbeats 40000000 in
theorem rmIC5 (l : Launch) (Z : State) (a0 : Array Value) (hw : ∀ d ∈ tables_1, d.before a0 Z = true) (ws : List Jvm.Cond) (a : Addr) (d : Addr) (c0 c1 c2 c3 c4 : Int32) (k1 : ClassId) (zc : Int32) (h0 : Heap) (n0 : Nat) (Z0 : n0 ≤ h0.size) (E_a : Exa Z h0 a "java/lang/String") (F_v : Fld Z h0 a "java/lang/String" "value" "[B" .null) (F_c : Fld Z h0 a "java/lang/String" "coder" "B" (.int (0 : Int32))) (g_a : n0 ≤ a) (V_d : Arv Z h0 d k1 .char (5 : Int32) [(.int c0), (.int c1), (.int c2), (.int c3), (.int c4)] (.int (0 : Int32))) (Sc : Sta Z h0 "java/lang/String" "COMPACT_STRINGS" "Z" (.int zc)) (hzc : ¬ zc = 0) (u0 : ¬ ((255 : Int32) < c0)) (u1 : ¬ ((255 : Int32) < c1)) (u2 : ¬ ((255 : Int32) < c2)) (u3 : ¬ ((255 : Int32) < c3)) (u4 : ¬ ((255 : Int32) < c4)) :
    MetFree l (⟨"java/lang/String", "<init>", "([C)V"⟩ : MethodName) (head1 (Jvm.Cond.code (⟨"java/lang/String", "<init>", "([C)V"⟩ : MethodName) jdk_42_method_3_code 2 none :: ws) ({ frames := 3, cells := 1, slots := 5, locals := 52 } : Room)) (fun ar_ U => ar_ = #[(.ref a), (.ref d)] ∧ Z.Warmed39 U.vm ∧ U.heap = h0) (fun _ _ _ _ _ => True) (fun _ U o U' => Phi U (Q_rmIC5 Z a d c0 c1 c2 c3 c4 k1 zc h0 n0) ({ frames := 3, cells := 1, slots := 5, locals := 52 } : Room).cells ({ frames := 3, cells := 1, slots := 5, locals := 52 } : Room).slots o U') := by
  refine MetFree.of_bodySF (plainFor_of_name pn_java_lang_String) hisR ?_
  intro p e s m args below meth c s₁ Bd hml0 hP hK
  obtain ⟨rfl, hZ, hh⟩ := hP
  have hx := Bd.exec
  have hby := Bd.bytes
  have hlk := Bd.notSynchronized
  have hml : c.maxLocals = 2 := hml0
  have hown : s.vm.findClass "java/lang/String" = some m.cls := findClass_of_methodNamed Bd.named
  have hown0 := hown
  have hnm := (name_of_methodNamed Bd.named Bd.method).1
  have hret := Bd.returns
  have X0 : Stand p l e ({ frames := 3, cells := 1, slots := 5, locals := 52 } : Room) s m #[(.ref a), (.ref d)] below meth c s₁ [] 0 0 := Stand.of_body Bd
  have e0 : s₁.heap = h0 := by rw [← hh, Bd.state]; rfl
  have N0 := Fr.nil n0
  have sz := Z0
  have K := Keep.refl h0 [a]
  show Runs p.tables e below (Phi s (Q_rmIC5 Z a d c0 c1 c2 c3 c4 k1 zc h0 n0) ({ frames := 3, cells := 1, slots := 5, locals := 52 } : Room).cells ({ frames := 3, cells := 1, slots := 5, locals := 52 } : Room).slots) _
  refine Runs.st (fun t' k' => castTop (ef_jdk_42_method_3_RR m a d ) k') ?_
  show Runs p.tables e below _ (s₁.setTop (mkF m 0 #[.val (.ref a), .val (.ref d)] []))
  refine Runs.st (fun t' k' => XS.aloadN X0.here hx rfl (hb hby d_jdk_42_method_3_0) rfl rfl k') ?_
  refine Runs.st (fun t' k' => XS.aloadN X0.here hx rfl (hb hby d_jdk_42_method_3_1) rfl rfl k') ?_
  refine Runs.st (fun t' k' => XS.iconst X0.here hx rfl (hb hby d_jdk_42_method_3_2) k') ?_
  refine Runs.st (fun t' k' => XS.aloadN X0.here hx rfl (hb hby d_jdk_42_method_3_3) rfl rfl k') ?_
  obtain ⟨cl1_, Ar1_, -, S1_, M1_, -, -⟩ := id V_d
  refine Runs.st (X0.arraylength hx (by rw [e0]; exact Ar1_.1) (State.isArrayOf_alike hZ.alike Ar1_.2.1) (g := (mkF m 4 #[.val (.ref a), .val (.ref d)] [(.ref d), (.int (0 : Int32)), (.ref d), (.ref a)])) rfl rfl (hb hby d_jdk_42_method_3_4)) ?_
  rw [len_of S1_ M1_]
  show Runs p.tables e below _ (s₁.setTop (mkF m 5 #[.val (.ref a), .val (.ref d)] [(.int (5 : Int32)), (.int (0 : Int32)), (.ref d), (.ref a)]))
  refine Runs.st (fun t' k' => XS.aconstNull X0.here hx rfl (hb hby d_jdk_42_method_3_5) k') ?_
  obtain ⟨_, _, ⟨T2_, L2_, k2_, n2_⟩, -, X2_, ⟨Lc2_, hQ2_, l2_, y2_, z2_⟩, st2_⟩ := X0.specialBack hx (y := (⟨"java/lang/String", "<init>", "([CIILjava/lang/Void;)V"⟩ : MethodName)) rfl hown (mvT hZ (hw _ (List.mem_of_getElem? (i := 8) rfl))) (mvT hZ (hw _ (List.mem_of_getElem? (i := 9) rfl))) (mvT hZ (hw _ (List.mem_of_getElem? (i := 11) rfl))) (by decide) (backOf (W := 0) (rmID5 l Z a0 hw [] a d c0 c1 c2 c3 c4 k1 zc h0 n0 sz E_a F_v F_c g_a V_d Sc hzc u0 u1 u2 u3 u4) hZ (hw _ (List.mem_of_getElem? (i := 11) rfl)) (hw _ (List.mem_of_getElem? (i := 4) rfl)) (by decide) (by decide)) (g := (mkF m 6 #[.val (.ref a), .val (.ref d)] [.null, (.int (5 : Int32)), (.int (0 : Int32)), (.ref d), (.ref a)])) rfl (by rw [hml]; rfl) (Steps.refl _) (a := a) (argsL := [(.ref d), (.int (0 : Int32)), (.int (5 : Int32)), .null]) (rest := []) (lenOf pd__28_5bCIILjava_2flang_2fVoid_3b_29V rfl) rfl (by show 2 * 0 + _ ≤ _; exact Nat.le_of_eq rfl) (hb hby d_jdk_42_method_3_6) (fun _ _ => ⟨rfl, e0, (by decide : 0 + 1 ≤ _), (by decide : 0 + 5 ≤ _)⟩)
  dsimp only [Pt.U, Pt.locs, Pt.cells, Pt.slots] at X2_ l2_ y2_ z2_ st2_ hQ2_
  subst l2_ y2_ z2_
  obtain ⟨rfl, N2_q, K2_, E_a, F_c, b, k2, szb, F_v, V_b⟩ := hQ2_
  have N2_ := Fr.app N0 N2_q
  refine Runs.tr st2_ ?_
  replace X2_ := wider X2_ (c' := 1) (s' := 5) (by decide) (by decide)
  replace sz := Nat.le_trans sz K2_.1
  replace K := K.trans K2_ (allS (Or.inl (List.mem_of_getElem? (i := 0) rfl)) all0)
  show Runs p.tables e below _ (T2_.setTop (mkF m 9 #[.val (.ref a), .val (.ref d)] []))
  refine Runs.ret X2_ hlk (v := none) (fun _ => rfl) (by decide) (by decide) ?_ (fun fs hr => X2_.returnOut hx hret (hb hby d_jdk_42_method_3_9) hr)
  exact ⟨rfl, N2_, K, E_a, F_c, b, k2, szb, F_v, V_b⟩
def Q_rmCA6 (Z : State) (a : Addr) (b : Addr) (c0 c1 c2 c3 c4 c5 : Int32) (k1 k2 : ClassId) (h0 : Heap) (n0 : Nat) : Option Value → Heap → List Loc → Prop := (fun v h L => v = some (.int (6 : Int32)) ∧ Fr n0 L ∧ Keep h0 h [b] ∧ Arv Z h b k2 .byte (6 : Int32) [(.int (nar .byte (c0.toInt8.toInt32))), (.int (nar .byte (c1.toInt8.toInt32))), (.int (nar .byte (c2.toInt8.toInt32))), (.int (nar .byte (c3.toInt8.toInt32))), (.int (nar .byte (c4.toInt8.toInt32))), (.int (nar .byte (c5.toInt8.toInt32)))] (.int (0 : Int32)))
set_option maxRecDepth 65536 in
set_option maxHeartbeats 40000000 in
theorem rmCA6 (l : Launch) (Z : State) (a0 : Array Value) (hw : ∀ d ∈ tables_1, d.before a0 Z = true) (ws : List Jvm.Cond) (a : Addr) (b : Addr) (c0 c1 c2 c3 c4 c5 : Int32) (k1 k2 : ClassId) (h0 : Heap) (n0 : Nat) (Z0 : n0 ≤ h0.size) (V_a : Arv Z h0 a k1 .char (6 : Int32) [(.int c0), (.int c1), (.int c2), (.int c3), (.int c4), (.int c5)] (.int (0 : Int32))) (V_b : Arv Z h0 b k2 .byte (6 : Int32) [(.int (0 : Int32)), (.int (0 : Int32)), (.int (0 : Int32)), (.int (0 : Int32)), (.int (0 : Int32)), (.int (0 : Int32))] (.int (0 : Int32))) (ne_a_b : a ≠ b) (g_b : n0 ≤ b) (u0 : ¬ ((255 : Int32) < c0)) (u1 : ¬ ((255 : Int32) < c1)) (u2 : ¬ ((255 : Int32) < c2)) (u3 : ¬ ((255 : Int32) < c3)) (u4 : ¬ ((255 : Int32) < c4)) (u5 : ¬ ((255 : Int32) < c5)) :
    MetFree l (⟨"java/lang/StringUTF16", "compress", "([CI[BII)I"⟩ : MethodName) (head1 (Jvm.Cond.code (⟨"java/lang/StringUTF16", "compress", "([CI[BII)I"⟩ : MethodName) jdk_52_method_21_code 7 (some .int) :: ws) ({ frames := 0, cells := 0, slots := 0, locals := 0 } : Room)) (fun ar_ U => ar_ = #[(.ref a), (.int (0 : Int32)), (.ref b), (.int (0 : Int32)), (.int (6 : Int32))] ∧ Z.Warmed39 U.vm ∧ U.heap = h0) (fun _ _ _ _ _ => True) (fun _ U o U' => Phi U (Q_rmCA6 Z a b c0 c1 c2 c3 c4 c5 k1 k2 h0 n0) ({ frames := 0, cells := 0, slots := 0, locals := 0 } : Room).cells ({ frames := 0, cells := 0, slots := 0, locals := 0 } : Room).slots o U') := by
  refine MetFree.of_bodySF (plainFor_of_name pn_java_lang_StringUTF16) hisR ?_
  intro p e s m args below meth c s₁ Bd hml0 hP hK
  obtain ⟨rfl, hZ, hh⟩ := hP
  have hx := Bd.exec
  have hby := Bd.bytes
  have hlk := Bd.notSynchronized
  have hml : c.maxLocals = 7 := hml0
  have hown : s.vm.findClass "java/lang/StringUTF16" = some m.cls := findClass_of_methodNamed Bd.named
  have hown0 := hown
  have hnm := (name_of_methodNamed Bd.named Bd.method).1
  have hret := Bd.returns
  have X0 : Stand p l e ({ frames := 0, cells := 0, slots := 0, locals := 0 } : Room) s m #[(.ref a), (.int (0 : Int32)), (.ref b), (.int (0 : Int32)), (.int (6 : Int32))] below meth c s₁ [] 0 0 := Stand.of_body Bd
  have e0 : s₁.heap = h0 := by rw [← hh, Bd.state]; rfl
  have N0 := Fr.nil n0
  have sz := Z0
  have K := Keep.refl h0 [b]
  show Runs p.tables e below (Phi s (Q_rmCA6 Z a b c0 c1 c2 c3 c4 c5 k1 k2 h0 n0) ({ frames := 0, cells := 0, slots := 0, locals := 0 } : Room).cells ({ frames := 0, cells := 0, slots := 0, locals := 0 } : Room).slots) _
  refine Runs.st (fun t' k' => castTop (ef_jdk_52_method_21_RIRII m a (0 : Int32) b (0 : Int32) (6 : Int32) ) k') ?_
  show Runs p.tables e below _ (s₁.setTop (mkF m 0 #[.val (.ref a), .val (.int (0 : Int32)), .val (.ref b), .val (.int (0 : Int32)), .val (.int (6 : Int32)), .unset, .unset] []))
  refine Runs.st (fun t' k' => XS.iconst X0.here hx rfl (hb hby d_jdk_52_method_21_0) k') ?_
  refine Runs.st (fun t' k' => XS.istore X0.here hx rfl (hb hby d_jdk_52_method_21_1) rfl (l' := #[.val (.ref a), .val (.int (0 : Int32)), .val (.ref b), .val (.int (0 : Int32)), .val (.int (6 : Int32)), .val (.int (0 : Int32)), .unset]) rfl k') ?_
  refine Runs.st (fun t' k' => XS.iload X0.here hx rfl (hb hby d_jdk_52_method_21_3) rfl k') ?_
  refine Runs.st (fun t' k' => XS.iload X0.here hx rfl (hb hby d_jdk_52_method_21_5) rfl k') ?_
  refine Runs.st (fun t' k' => XS.icmpNo X0.here hx rfl (hb hby d_jdk_52_method_21_7) rfl (tlt (by decide)).2.1 k') ?_
  show Runs p.tables e below _ (s₁.setTop (mkF m 10 #[.val (.ref a), .val (.int (0 : Int32)), .val (.ref b), .val (.int (0 : Int32)), .val (.int (6 : Int32)), .val (.int (0 : Int32)), .unset] []))
  refine Runs.st (fun t' k' => XS.aloadN X0.here hx rfl (hb hby d_jdk_52_method_21_10) rfl rfl k') ?_
  refine Runs.st (fun t' k' => XS.iloadN X0.here hx rfl (hb hby d_jdk_52_method_21_11) rfl k') ?_
  obtain ⟨cl1_, Ar1_, -, S1_, M1_, Ha1_, -⟩ := id V_a
  have hin1_ : ¬ ((0 : Int32) < 0 ∨ cl1_.slots.size ≤ ((0 : Int32)).toNatClampNeg) := inb_of S1_ ⟨by decide, by decide⟩
  refine Runs.st (X0.caload hx (j := (0 : Int32)) (v := (.int c0)) (by rw [e0]; exact Ar1_.1) (State.isArrayOf_alike hZ.alike Ar1_.2.1) Ar1_.2.2 hin1_ (Ha1_.at hin1_ rfl) (g := (mkF m 12 #[.val (.ref a), .val (.int (0 : Int32)), .val (.ref b), .val (.int (0 : Int32)), .val (.int (6 : Int32)), .val (.int (0 : Int32)), .unset] [(.int (0 : Int32)), (.ref a)])) rfl rfl (hb hby d_jdk_52_method_21_12)) ?_
  show Runs p.tables e below _ (s₁.setTop (mkF m 13 #[.val (.ref a), .val (.int (0 : Int32)), .val (.ref b), .val (.int (0 : Int32)), .val (.int (6 : Int32)), .val (.int (0 : Int32)), .unset] [(.int c0)]))
  refine Runs.st (fun t' k' => XS.istore X0.here hx rfl (hb hby d_jdk_52_method_21_13) rfl (l' := #[.val (.ref a), .val (.int (0 : Int32)), .val (.ref b), .val (.int (0 : Int32)), .val (.int (6 : Int32)), .val (.int (0 : Int32)), .val (.int c0)]) rfl k') ?_
  refine Runs.st (fun t' k' => XS.iload X0.here hx rfl (hb hby d_jdk_52_method_21_15) rfl k') ?_
  refine Runs.st (fun t' k' => XS.sipush X0.here hx rfl (hb hby d_jdk_52_method_21_17) k') ?_
  refine Runs.st (fun t' k' => XS.icmpYes X0.here hx rfl (pc0 := 20) (pc' := 26) rfl (hb hby d_jdk_52_method_21_20) rfl (flt u0).2.2.2 (by decide) (by decide) k') ?_
  show Runs p.tables e below _ (s₁.setTop (mkF m 26 #[.val (.ref a), .val (.int (0 : Int32)), .val (.ref b), .val (.int (0 : Int32)), .val (.int (6 : Int32)), .val (.int (0 : Int32)), .val (.int c0)] []))
  refine Runs.st (fun t' k' => XS.aloadN X0.here hx rfl (hb hby d_jdk_52_method_21_26) rfl rfl k') ?_
  refine Runs.st (fun t' k' => XS.iloadN X0.here hx rfl (hb hby d_jdk_52_method_21_27) rfl k') ?_
  refine Runs.st (fun t' k' => XS.iload X0.here hx rfl (hb hby d_jdk_52_method_21_28) rfl k') ?_
  refine Runs.st (fun t' k' => XS.i2b X0.here hx rfl (hb hby d_jdk_52_method_21_30) rfl k') ?_
  obtain ⟨cl2_, Ar2_, q2_, S2_, M2_, Ha2_, G2_⟩ := V_b
  have hin2_ : ¬ ((0 : Int32) < 0 ∨ cl2_.slots.size ≤ ((0 : Int32)).toNatClampNeg) := inb_of S2_ ⟨by decide, by decide⟩
  obtain ⟨T2_, h2_, X2_, e2_, W2_, st2_⟩ := stB X0 hx hZ e0 Ar2_ (j := (0 : Int32)) hin2_ (g := (mkF m 31 #[.val (.ref a), .val (.int (0 : Int32)), .val (.ref b), .val (.int (0 : Int32)), .val (.int (6 : Int32)), .val (.int (0 : Int32)), .val (.int c0)] [(.int (c0.toInt8.toInt32)), (.int (0 : Int32)), (.ref b)])) rfl rfl (hb hby d_jdk_52_method_21_31)
  refine Runs.st (st2_) ?_
  have V_b := Arv.set Ar2_ q2_ S2_ M2_ Ha2_ G2_ (fits_nar_byte _) W2_ 0 rfl (Nat.le_of_ble_eq_true rfl)
  replace V_a := V_a.other W2_ ne_a_b
  replace sz := Nat.le_trans sz (Keep.of_wr W2_).1
  have N2_ := Fr.snoc X2_ N0 g_b
  replace K := K.wr W2_ (Or.inl (List.mem_of_getElem? (i := 0) rfl))
  show Runs p.tables e below _ (T2_.setTop (mkF m 32 #[.val (.ref a), .val (.int (0 : Int32)), .val (.ref b), .val (.int (0 : Int32)), .val (.int (6 : Int32)), .val (.int (0 : Int32)), .val (.int c0)] []))
  refine Runs.st (fun t' k' => XS.iinc X2_.here hx rfl (hb hby d_jdk_52_method_21_32) rfl (l' := #[.val (.ref a), .val (.int ((0 : Int32) + (1 : Int32))), .val (.ref b), .val (.int (0 : Int32)), .val (.int (6 : Int32)), .val (.int (0 : Int32)), .val (.int c0)]) rfl k') ?_
  refine Runs.st (fun t' k' => XS.iinc X2_.here hx rfl (hb hby d_jdk_52_method_21_35) rfl (l' := #[.val (.ref a), .val (.int ((0 : Int32) + (1 : Int32))), .val (.ref b), .val (.int ((0 : Int32) + (1 : Int32))), .val (.int (6 : Int32)), .val (.int (0 : Int32)), .val (.int c0)]) rfl k') ?_
  refine Runs.st (fun t' k' => XS.iinc X2_.here hx rfl (hb hby d_jdk_52_method_21_38) rfl (l' := #[.val (.ref a), .val (.int ((0 : Int32) + (1 : Int32))), .val (.ref b), .val (.int ((0 : Int32) + (1 : Int32))), .val (.int (6 : Int32)), .val (.int ((0 : Int32) + (1 : Int32))), .val (.int c0)]) rfl k') ?_
  show Runs p.tables e below _ (T2_.setTop (mkF m 41 #[.val (.ref a), .val (.int ((0 : Int32) + (1 : Int32))), .val (.ref b), .val (.int ((0 : Int32) + (1 : Int32))), .val (.int (6 : Int32)), .val (.int ((0 : Int32) + (1 : Int32))), .val (.int c0)] []))
  rw [show ((0 : Int32) + (1 : Int32)) = (1 : Int32) from rfl]
  show Runs p.tables e below _ (T2_.setTop (mkF m 41 #[.val (.ref a), .val (.int (1 : Int32)), .val (.ref b), .val (.int (1 : Int32)), .val (.int (6 : Int32)), .val (.int (1 : Int32)), .val (.int c0)] []))
  refine Runs.st (fun t' k' => XS.goto X2_.here hx rfl (pc0 := 41) (pc' := 3) rfl (hb hby d_jdk_52_method_21_41) (by decide) (by decide) k') ?_
  refine Runs.st (fun t' k' => XS.iload X2_.here hx rfl (hb hby d_jdk_52_method_21_3) rfl k') ?_
  show Runs p.tables e below _ (T2_.setTop (mkF m 5 #[.val (.ref a), .val (.int (1 : Int32)), .val (.ref b), .val (.int (1 : Int32)), .val (.int (6 : Int32)), .val (.int (1 : Int32)), .val (.int c0)] [(.int (1 : Int32))]))
  refine Runs.st (fun t' k' => XS.iload X2_.here hx rfl (hb hby d_jdk_52_method_21_5) rfl k') ?_
  refine Runs.st (fun t' k' => XS.icmpNo X2_.here hx rfl (hb hby d_jdk_52_method_21_7) rfl (tlt (by decide)).2.1 k') ?_
  show Runs p.tables e below _ (T2_.setTop (mkF m 10 #[.val (.ref a), .val (.int (1 : Int32)), .val (.ref b), .val (.int (1 : Int32)), .val (.int (6 : Int32)), .val (.int (1 : Int32)), .val (.int c0)] []))
  refine Runs.st (fun t' k' => XS.aloadN X2_.here hx rfl (hb hby d_jdk_52_method_21_10) rfl rfl k') ?_
  refine Runs.st (fun t' k' => XS.iloadN X2_.here hx rfl (hb hby d_jdk_52_method_21_11) rfl k') ?_
  obtain ⟨cl3_, Ar3_, -, S3_, M3_, Ha3_, -⟩ := id V_a
  have hin3_ : ¬ ((1 : Int32) < 0 ∨ cl3_.slots.size ≤ ((1 : Int32)).toNatClampNeg) := inb_of S3_ ⟨by decide, by decide⟩
  refine Runs.st (X2_.caload hx (j := (1 : Int32)) (v := (.int c1)) (by rw [e2_]; exact Ar3_.1) (State.isArrayOf_alike hZ.alike Ar3_.2.1) Ar3_.2.2 hin3_ (Ha3_.at hin3_ rfl) (g := (mkF m 12 #[.val (.ref a), .val (.int (1 : Int32)), .val (.ref b), .val (.int (1 : Int32)), .val (.int (6 : Int32)), .val (.int (1 : Int32)), .val (.int c0)] [(.int (1 : Int32)), (.ref a)])) rfl rfl (hb hby d_jdk_52_method_21_12)) ?_
  show Runs p.tables e below _ (T2_.setTop (mkF m 13 #[.val (.ref a), .val (.int (1 : Int32)), .val (.ref b), .val (.int (1 : Int32)), .val (.int (6 : Int32)), .val (.int (1 : Int32)), .val (.int c0)] [(.int c1)]))
  refine Runs.st (fun t' k' => XS.istore X2_.here hx rfl (hb hby d_jdk_52_method_21_13) rfl (l' := #[.val (.ref a), .val (.int (1 : Int32)), .val (.ref b), .val (.int (1 : Int32)), .val (.int (6 : Int32)), .val (.int (1 : Int32)), .val (.int c1)]) rfl k') ?_
  refine Runs.st (fun t' k' => XS.iload X2_.here hx rfl (hb hby d_jdk_52_method_21_15) rfl k') ?_
  refine Runs.st (fun t' k' => XS.sipush X2_.here hx rfl (hb hby d_jdk_52_method_21_17) k') ?_
  refine Runs.st (fun t' k' => XS.icmpYes X2_.here hx rfl (pc0 := 20) (pc' := 26) rfl (hb hby d_jdk_52_method_21_20) rfl (flt u1).2.2.2 (by decide) (by decide) k') ?_
  show Runs p.tables e below _ (T2_.setTop (mkF m 26 #[.val (.ref a), .val (.int (1 : Int32)), .val (.ref b), .val (.int (1 : Int32)), .val (.int (6 : Int32)), .val (.int (1 : Int32)), .val (.int c1)] []))
  refine Runs.st (fun t' k' => XS.aloadN X2_.here hx rfl (hb hby d_jdk_52_method_21_26) rfl rfl k') ?_
  refine Runs.st (fun t' k' => XS.iloadN X2_.here hx rfl (hb hby d_jdk_52_method_21_27) rfl k') ?_
  refine Runs.st (fun t' k' => XS.iload X2_.here hx rfl (hb hby d_jdk_52_method_21_28) rfl k') ?_
  refine Runs.st (fun t' k' => XS.i2b X2_.here hx rfl (hb hby d_jdk_52_method_21_30) rfl k') ?_
  obtain ⟨cl4_, Ar4_, q4_, S4_, M4_, Ha4_, G4_⟩ := V_b
  have hin4_ : ¬ ((1 : Int32) < 0 ∨ cl4_.slots.size ≤ ((1 : Int32)).toNatClampNeg) := inb_of S4_ ⟨by decide, by decide⟩
  obtain ⟨T4_, h4_, X4_, e4_, W4_, st4_⟩ := stB X2_ hx hZ e2_ Ar4_ (j := (1 : Int32)) hin4_ (g := (mkF m 31 #[.val (.ref a), .val (.int (1 : Int32)), .val (.ref b), .val (.int (1 : Int32)), .val (.int (6 : Int32)), .val (.int (1 : Int32)), .val (.int c1)] [(.int (c1.toInt8.toInt32)), (.int (1 : Int32)), (.ref b)])) rfl rfl (hb hby d_jdk_52_method_21_31)
  refine Runs.st (st4_) ?_
  have V_b := Arv.set Ar4_ q4_ S4_ M4_ Ha4_ G4_ (fits_nar_byte _) W4_ 1 rfl (Nat.le_of_ble_eq_true rfl)
  replace V_a := V_a.other W4_ ne_a_b
  replace sz := Nat.le_trans sz (Keep.of_wr W4_).1
  have N4_ := Fr.snoc X4_ N2_ g_b
  replace K := K.wr W4_ (Or.inl (List.mem_of_getElem? (i := 0) rfl))
  show Runs p.tables e below _ (T4_.setTop (mkF m 32 #[.val (.ref a), .val (.int (1 : Int32)), .val (.ref b), .val (.int (1 : Int32)), .val (.int (6 : Int32)), .val (.int (1 : Int32)), .val (.int c1)] []))
  refine Runs.st (fun t' k' => XS.iinc X4_.here hx rfl (hb hby d_jdk_52_method_21_32) rfl (l' := #[.val (.ref a), .val (.int ((1 : Int32) + (1 : Int32))), .val (.ref b), .val (.int (1 : Int32)), .val (.int (6 : Int32)), .val (.int (1 : Int32)), .val (.int c1)]) rfl k') ?_
  refine Runs.st (fun t' k' => XS.iinc X4_.here hx rfl (hb hby d_jdk_52_method_21_35) rfl (l' := #[.val (.ref a), .val (.int ((1 : Int32) + (1 : Int32))), .val (.ref b), .val (.int ((1 : Int32) + (1 : Int32))), .val (.int (6 : Int32)), .val (.int (1 : Int32)), .val (.int c1)]) rfl k') ?_
  refine Runs.st (fun t' k' => XS.iinc X4_.here hx rfl (hb hby d_jdk_52_method_21_38) rfl (l' := #[.val (.ref a), .val (.int ((1 : Int32) + (1 : Int32))), .val (.ref b), .val (.int ((1 : Int32) + (1 : Int32))), .val (.int (6 : Int32)), .val (.int ((1 : Int32) + (1 : Int32))), .val (.int c1)]) rfl k') ?_
  show Runs p.tables e below _ (T4_.setTop (mkF m 41 #[.val (.ref a), .val (.int ((1 : Int32) + (1 : Int32))), .val (.ref b), .val (.int ((1 : Int32) + (1 : Int32))), .val (.int (6 : Int32)), .val (.int ((1 : Int32) + (1 : Int32))), .val (.int c1)] []))
  rw [show ((1 : Int32) + (1 : Int32)) = (2 : Int32) from rfl]
  show Runs p.tables e below _ (T4_.setTop (mkF m 41 #[.val (.ref a), .val (.int (2 : Int32)), .val (.ref b), .val (.int (2 : Int32)), .val (.int (6 : Int32)), .val (.int (2 : Int32)), .val (.int c1)] []))
  refine Runs.st (fun t' k' => XS.goto X4_.here hx rfl (pc0 := 41) (pc' := 3) rfl (hb hby d_jdk_52_method_21_41) (by decide) (by decide) k') ?_
  refine Runs.st (fun t' k' => XS.iload X4_.here hx rfl (hb hby d_jdk_52_method_21_3) rfl k') ?_
  show Runs p.tables e below _ (T4_.setTop (mkF m 5 #[.val (.ref a), .val (.int (2 : Int32)), .val (.ref b), .val (.int (2 : Int32)), .val (.int (6 : Int32)), .val (.int (2 : Int32)), .val (.int c1)] [(.int (2 : Int32))]))
  refine Runs.st (fun t' k' => XS.iload X4_.here hx rfl (hb hby d_jdk_52_method_21_5) rfl k') ?_
  refine Runs.st (fun t' k' => XS.icmpNo X4_.here hx rfl (hb hby d_jdk_52_method_21_7) rfl (tlt (by decide)).2.1 k') ?_
  show Runs p.tables e below _ (T4_.setTop (mkF m 10 #[.val (.ref a), .val (.int (2 : Int32)), .val (.ref b), .val (.int (2 : Int32)), .val (.int (6 : Int32)), .val (.int (2 : Int32)), .val (.int c1)] []))
  refine Runs.st (fun t' k' => XS.aloadN X4_.here hx rfl (hb hby d_jdk_52_method_21_10) rfl rfl k') ?_
  refine Runs.st (fun t' k' => XS.iloadN X4_.here hx rfl (hb hby d_jdk_52_method_21_11) rfl k') ?_
  obtain ⟨cl5_, Ar5_, -, S5_, M5_, Ha5_, -⟩ := id V_a
  have hin5_ : ¬ ((2 : Int32) < 0 ∨ cl5_.slots.size ≤ ((2 : Int32)).toNatClampNeg) := inb_of S5_ ⟨by decide, by decide⟩
  refine Runs.st (X4_.caload hx (j := (2 : Int32)) (v := (.int c2)) (by rw [e4_]; exact Ar5_.1) (State.isArrayOf_alike hZ.alike Ar5_.2.1) Ar5_.2.2 hin5_ (Ha5_.at hin5_ rfl) (g := (mkF m 12 #[.val (.ref a), .val (.int (2 : Int32)), .val (.ref b), .val (.int (2 : Int32)), .val (.int (6 : Int32)), .val (.int (2 : Int32)), .val (.int c1)] [(.int (2 : Int32)), (.ref a)])) rfl rfl (hb hby d_jdk_52_method_21_12)) ?_
  show Runs p.tables e below _ (T4_.setTop (mkF m 13 #[.val (.ref a), .val (.int (2 : Int32)), .val (.ref b), .val (.int (2 : Int32)), .val (.int (6 : Int32)), .val (.int (2 : Int32)), .val (.int c1)] [(.int c2)]))
  refine Runs.st (fun t' k' => XS.istore X4_.here hx rfl (hb hby d_jdk_52_method_21_13) rfl (l' := #[.val (.ref a), .val (.int (2 : Int32)), .val (.ref b), .val (.int (2 : Int32)), .val (.int (6 : Int32)), .val (.int (2 : Int32)), .val (.int c2)]) rfl k') ?_
  refine Runs.st (fun t' k' => XS.iload X4_.here hx rfl (hb hby d_jdk_52_method_21_15) rfl k') ?_
  refine Runs.st (fun t' k' => XS.sipush X4_.here hx rfl (hb hby d_jdk_52_method_21_17) k') ?_
  refine Runs.st (fun t' k' => XS.icmpYes X4_.here hx rfl (pc0 := 20) (pc' := 26) rfl (hb hby d_jdk_52_method_21_20) rfl (flt u2).2.2.2 (by decide) (by decide) k') ?_
  show Runs p.tables e below _ (T4_.setTop (mkF m 26 #[.val (.ref a), .val (.int (2 : Int32)), .val (.ref b), .val (.int (2 : Int32)), .val (.int (6 : Int32)), .val (.int (2 : Int32)), .val (.int c2)] []))
  refine Runs.st (fun t' k' => XS.aloadN X4_.here hx rfl (hb hby d_jdk_52_method_21_26) rfl rfl k') ?_
  refine Runs.st (fun t' k' => XS.iloadN X4_.here hx rfl (hb hby d_jdk_52_method_21_27) rfl k') ?_
  refine Runs.st (fun t' k' => XS.iload X4_.here hx rfl (hb hby d_jdk_52_method_21_28) rfl k') ?_
  refine Runs.st (fun t' k' => XS.i2b X4_.here hx rfl (hb hby d_jdk_52_method_21_30) rfl k') ?_
  obtain ⟨cl6_, Ar6_, q6_, S6_, M6_, Ha6_, G6_⟩ := V_b
  have hin6_ : ¬ ((2 : Int32) < 0 ∨ cl6_.slots.size ≤ ((2 : Int32)).toNatClampNeg) := inb_of S6_ ⟨by decide, by decide⟩
  obtain ⟨T6_, h6_, X6_, e6_, W6_, st6_⟩ := stB X4_ hx hZ e4_ Ar6_ (j := (2 : Int32)) hin6_ (g := (mkF m 31 #[.val (.ref a), .val (.int (2 : Int32)), .val (.ref b), .val (.int (2 : Int32)), .val (.int (6 : Int32)), .val (.int (2 : Int32)), .val (.int c2)] [(.int (c2.toInt8.toInt32)), (.int (2 : Int32)), (.ref b)])) rfl rfl (hb hby d_jdk_52_method_21_31)
  refine Runs.st (st6_) ?_
  have V_b := Arv.set Ar6_ q6_ S6_ M6_ Ha6_ G6_ (fits_nar_byte _) W6_ 2 rfl (Nat.le_of_ble_eq_true rfl)
  replace V_a := V_a.other W6_ ne_a_b
  replace sz := Nat.le_trans sz (Keep.of_wr W6_).1
  have N6_ := Fr.snoc X6_ N4_ g_b
  replace K := K.wr W6_ (Or.inl (List.mem_of_getElem? (i := 0) rfl))
  show Runs p.tables e below _ (T6_.setTop (mkF m 32 #[.val (.ref a), .val (.int (2 : Int32)), .val (.ref b), .val (.int (2 : Int32)), .val (.int (6 : Int32)), .val (.int (2 : Int32)), .val (.int c2)] []))
  refine Runs.st (fun t' k' => XS.iinc X6_.here hx rfl (hb hby d_jdk_52_method_21_32) rfl (l' := #[.val (.ref a), .val (.int ((2 : Int32) + (1 : Int32))), .val (.ref b), .val (.int (2 : Int32)), .val (.int (6 : Int32)), .val (.int (2 : Int32)), .val (.int c2)]) rfl k') ?_
  refine Runs.st (fun t' k' => XS.iinc X6_.here hx rfl (hb hby d_jdk_52_method_21_35) rfl (l' := #[.val (.ref a), .val (.int ((2 : Int32) + (1 : Int32))), .val (.ref b), .val (.int ((2 : Int32) + (1 : Int32))), .val (.int (6 : Int32)), .val (.int (2 : Int32)), .val (.int c2)]) rfl k') ?_
  refine Runs.st (fun t' k' => XS.iinc X6_.here hx rfl (hb hby d_jdk_52_method_21_38) rfl (l' := #[.val (.ref a), .val (.int ((2 : Int32) + (1 : Int32))), .val (.ref b), .val (.int ((2 : Int32) + (1 : Int32))), .val (.int (6 : Int32)), .val (.int ((2 : Int32) + (1 : Int32))), .val (.int c2)]) rfl k') ?_
  show Runs p.tables e below _ (T6_.setTop (mkF m 41 #[.val (.ref a), .val (.int ((2 : Int32) + (1 : Int32))), .val (.ref b), .val (.int ((2 : Int32) + (1 : Int32))), .val (.int (6 : Int32)), .val (.int ((2 : Int32) + (1 : Int32))), .val (.int c2)] []))
  rw [show ((2 : Int32) + (1 : Int32)) = (3 : Int32) from rfl]
  show Runs p.tables e below _ (T6_.setTop (mkF m 41 #[.val (.ref a), .val (.int (3 : Int32)), .val (.ref b), .val (.int (3 : Int32)), .val (.int (6 : Int32)), .val (.int (3 : Int32)), .val (.int c2)] []))
  refine Runs.st (fun t' k' => XS.goto X6_.here hx rfl (pc0 := 41) (pc' := 3) rfl (hb hby d_jdk_52_method_21_41) (by decide) (by decide) k') ?_
  refine Runs.st (fun t' k' => XS.iload X6_.here hx rfl (hb hby d_jdk_52_method_21_3) rfl k') ?_
  show Runs p.tables e below _ (T6_.setTop (mkF m 5 #[.val (.ref a), .val (.int (3 : Int32)), .val (.ref b), .val (.int (3 : Int32)), .val (.int (6 : Int32)), .val (.int (3 : Int32)), .val (.int c2)] [(.int (3 : Int32))]))
  refine Runs.st (fun t' k' => XS.iload X6_.here hx rfl (hb hby d_jdk_52_method_21_5) rfl k') ?_
  refine Runs.st (fun t' k' => XS.icmpNo X6_.here hx rfl (hb hby d_jdk_52_method_21_7) rfl (tlt (by decide)).2.1 k') ?_
  show Runs p.tables e below _ (T6_.setTop (mkF m 10 #[.val (.ref a), .val (.int (3 : Int32)), .val (.ref b), .val (.int (3 : Int32)), .val (.int (6 : Int32)), .val (.int (3 : Int32)), .val (.int c2)] []))
  refine Runs.st (fun t' k' => XS.aloadN X6_.here hx rfl (hb hby d_jdk_52_method_21_10) rfl rfl k') ?_
  refine Runs.st (fun t' k' => XS.iloadN X6_.here hx rfl (hb hby d_jdk_52_method_21_11) rfl k') ?_
  obtain ⟨cl7_, Ar7_, -, S7_, M7_, Ha7_, -⟩ := id V_a
  have hin7_ : ¬ ((3 : Int32) < 0 ∨ cl7_.slots.size ≤ ((3 : Int32)).toNatClampNeg) := inb_of S7_ ⟨by decide, by decide⟩
  refine Runs.st (X6_.caload hx (j := (3 : Int32)) (v := (.int c3)) (by rw [e6_]; exact Ar7_.1) (State.isArrayOf_alike hZ.alike Ar7_.2.1) Ar7_.2.2 hin7_ (Ha7_.at hin7_ rfl) (g := (mkF m 12 #[.val (.ref a), .val (.int (3 : Int32)), .val (.ref b), .val (.int (3 : Int32)), .val (.int (6 : Int32)), .val (.int (3 : Int32)), .val (.int c2)] [(.int (3 : Int32)), (.ref a)])) rfl rfl (hb hby d_jdk_52_method_21_12)) ?_
  show Runs p.tables e below _ (T6_.setTop (mkF m 13 #[.val (.ref a), .val (.int (3 : Int32)), .val (.ref b), .val (.int (3 : Int32)), .val (.int (6 : Int32)), .val (.int (3 : Int32)), .val (.int c2)] [(.int c3)]))
  refine Runs.st (fun t' k' => XS.istore X6_.here hx rfl (hb hby d_jdk_52_method_21_13) rfl (l' := #[.val (.ref a), .val (.int (3 : Int32)), .val (.ref b), .val (.int (3 : Int32)), .val (.int (6 : Int32)), .val (.int (3 : Int32)), .val (.int c3)]) rfl k') ?_
  refine Runs.st (fun t' k' => XS.iload X6_.here hx rfl (hb hby d_jdk_52_method_21_15) rfl k') ?_
  refine Runs.st (fun t' k' => XS.sipush X6_.here hx rfl (hb hby d_jdk_52_method_21_17) k') ?_
  refine Runs.st (fun t' k' => XS.icmpYes X6_.here hx rfl (pc0 := 20) (pc' := 26) rfl (hb hby d_jdk_52_method_21_20) rfl (flt u3).2.2.2 (by decide) (by decide) k') ?_
  show Runs p.tables e below _ (T6_.setTop (mkF m 26 #[.val (.ref a), .val (.int (3 : Int32)), .val (.ref b), .val (.int (3 : Int32)), .val (.int (6 : Int32)), .val (.int (3 : Int32)), .val (.int c3)] []))
  refine Runs.st (fun t' k' => XS.aloadN X6_.here hx rfl (hb hby d_jdk_52_method_21_26) rfl rfl k') ?_
  refine Runs.st (fun t' k' => XS.iloadN X6_.here hx rfl (hb hby d_jdk_52_method_21_27) rfl k') ?_
  refine Runs.st (fun t' k' => XS.iload X6_.here hx rfl (hb hby d_jdk_52_method_21_28) rfl k') ?_
  refine Runs.st (fun t' k' => XS.i2b X6_.here hx rfl (hb hby d_jdk_52_method_21_30) rfl k') ?_
  obtain ⟨cl8_, Ar8_, q8_, S8_, M8_, Ha8_, G8_⟩ := V_b
  have hin8_ : ¬ ((3 : Int32) < 0 ∨ cl8_.slots.size ≤ ((3 : Int32)).toNatClampNeg) := inb_of S8_ ⟨by decide, by decide⟩
  obtain ⟨T8_, h8_, X8_, e8_, W8_, st8_⟩ := stB X6_ hx hZ e6_ Ar8_ (j := (3 : Int32)) hin8_ (g := (mkF m 31 #[.val (.ref a), .val (.int (3 : Int32)), .val (.ref b), .val (.int (3 : Int32)), .val (.int (6 : Int32)), .val (.int (3 : Int32)), .val (.int c3)] [(.int (c3.toInt8.toInt32)), (.int (3 : Int32)), (.ref b)])) rfl rfl (hb hby d_jdk_52_method_21_31)
  refine Runs.st (st8_) ?_
  have V_b := Arv.set Ar8_ q8_ S8_ M8_ Ha8_ G8_ (fits_nar_byte _) W8_ 3 rfl (Nat.le_of_ble_eq_true rfl)
  replace V_a := V_a.other W8_ ne_a_b
  replace sz := Nat.le_trans sz (Keep.of_wr W8_).1
  have N8_ := Fr.snoc X8_ N6_ g_b
  replace K := K.wr W8_ (Or.inl (List.mem_of_getElem? (i := 0) rfl))
  show Runs p.tables e below _ (T8_.setTop (mkF m 32 #[.val (.ref a), .val (.int (3 : Int32)), .val (.ref b), .val (.int (3 : Int32)), .val (.int (6 : Int32)), .val (.int (3 : Int32)), .val (.int c3)] []))
  refine Runs.st (fun t' k' => XS.iinc X8_.here hx rfl (hb hby d_jdk_52_method_21_32) rfl (l' := #[.val (.ref a), .val (.int ((3 : Int32) + (1 : Int32))), .val (.ref b), .val (.int (3 : Int32)), .val (.int (6 : Int32)), .val (.int (3 : Int32)), .val (.int c3)]) rfl k') ?_
  refine Runs.st (fun t' k' => XS.iinc X8_.here hx rfl (hb hby d_jdk_52_method_21_35) rfl (l' := #[.val (.ref a), .val (.int ((3 : Int32) + (1 : Int32))), .val (.ref b), .val (.int ((3 : Int32) + (1 : Int32))), .val (.int (6 : Int32)), .val (.int (3 : Int32)), .val (.int c3)]) rfl k') ?_
  refine Runs.st (fun t' k' => XS.iinc X8_.here hx rfl (hb hby d_jdk_52_method_21_38) rfl (l' := #[.val (.ref a), .val (.int ((3 : Int32) + (1 : Int32))), .val (.ref b), .val (.int ((3 : Int32) + (1 : Int32))), .val (.int (6 : Int32)), .val (.int ((3 : Int32) + (1 : Int32))), .val (.int c3)]) rfl k') ?_
  show Runs p.tables e below _ (T8_.setTop (mkF m 41 #[.val (.ref a), .val (.int ((3 : Int32) + (1 : Int32))), .val (.ref b), .val (.int ((3 : Int32) + (1 : Int32))), .val (.int (6 : Int32)), .val (.int ((3 : Int32) + (1 : Int32))), .val (.int c3)] []))
  rw [show ((3 : Int32) + (1 : Int32)) = (4 : Int32) from rfl]
  show Runs p.tables e below _ (T8_.setTop (mkF m 41 #[.val (.ref a), .val (.int (4 : Int32)), .val (.ref b), .val (.int (4 : Int32)), .val (.int (6 : Int32)), .val (.int (4 : Int32)), .val (.int c3)] []))
  refine Runs.st (fun t' k' => XS.goto X8_.here hx rfl (pc0 := 41) (pc' := 3) rfl (hb hby d_jdk_52_method_21_41) (by decide) (by decide) k') ?_
  refine Runs.st (fun t' k' => XS.iload X8_.here hx rfl (hb hby d_jdk_52_method_21_3) rfl k') ?_
  show Runs p.tables e below _ (T8_.setTop (mkF m 5 #[.val (.ref a), .val (.int (4 : Int32)), .val (.ref b), .val (.int (4 : Int32)), .val (.int (6 : Int32)), .val (.int (4 : Int32)), .val (.int c3)] [(.int (4 : Int32))]))
  refine Runs.st (fun t' k' => XS.iload X8_.here hx rfl (hb hby d_jdk_52_method_21_5) rfl k') ?_
  refine Runs.st (fun t' k' => XS.icmpNo X8_.here hx rfl (hb hby d_jdk_52_method_21_7) rfl (tlt (by decide)).2.1 k') ?_
  show Runs p.tables e below _ (T8_.setTop (mkF m 10 #[.val (.ref a), .val (.int (4 : Int32)), .val (.ref b), .val (.int (4 : Int32)), .val (.int (6 : Int32)), .val (.int (4 : Int32)), .val (.int c3)] []))
  refine Runs.st (fun t' k' => XS.aloadN X8_.here hx rfl (hb hby d_jdk_52_method_21_10) rfl rfl k') ?_
  refine Runs.st (fun t' k' => XS.iloadN X8_.here hx rfl (hb hby d_jdk_52_method_21_11) rfl k') ?_
  obtain ⟨cl9_, Ar9_, -, S9_, M9_, Ha9_, -⟩ := id V_a
  have hin9_ : ¬ ((4 : Int32) < 0 ∨ cl9_.slots.size ≤ ((4 : Int32)).toNatClampNeg) := inb_of S9_ ⟨by decide, by decide⟩
  refine Runs.st (X8_.caload hx (j := (4 : Int32)) (v := (.int c4)) (by rw [e8_]; exact Ar9_.1) (State.isArrayOf_alike hZ.alike Ar9_.2.1) Ar9_.2.2 hin9_ (Ha9_.at hin9_ rfl) (g := (mkF m 12 #[.val (.ref a), .val (.int (4 : Int32)), .val (.ref b), .val (.int (4 : Int32)), .val (.int (6 : Int32)), .val (.int (4 : Int32)), .val (.int c3)] [(.int (4 : Int32)), (.ref a)])) rfl rfl (hb hby d_jdk_52_method_21_12)) ?_
  show Runs p.tables e below _ (T8_.setTop (mkF m 13 #[.val (.ref a), .val (.int (4 : Int32)), .val (.ref b), .val (.int (4 : Int32)), .val (.int (6 : Int32)), .val (.int (4 : Int32)), .val (.int c3)] [(.int c4)]))
  refine Runs.st (fun t' k' => XS.istore X8_.here hx rfl (hb hby d_jdk_52_method_21_13) rfl (l' := #[.val (.ref a), .val (.int (4 : Int32)), .val (.ref b), .val (.int (4 : Int32)), .val (.int (6 : Int32)), .val (.int (4 : Int32)), .val (.int c4)]) rfl k') ?_
  refine Runs.st (fun t' k' => XS.iload X8_.here hx rfl (hb hby d_jdk_52_method_21_15) rfl k') ?_
  refine Runs.st (fun t' k' => XS.sipush X8_.here hx rfl (hb hby d_jdk_52_method_21_17) k') ?_
  refine Runs.st (fun t' k' => XS.icmpYes X8_.here hx rfl (pc0 := 20) (pc' := 26) rfl (hb hby d_jdk_52_method_21_20) rfl (flt u4).2.2.2 (by decide) (by decide) k') ?_
  show Runs p.tables e below _ (T8_.setTop (mkF m 26 #[.val (.ref a), .val (.int (4 : Int32)), .val (.ref b), .val (.int (4 : Int32)), .val (.int (6 : Int32)), .val (.int (4 : Int32)), .val (.int c4)] []))
  refine Runs.st (fun t' k' => XS.aloadN X8_.here hx rfl (hb hby d_jdk_52_method_21_26) rfl rfl k') ?_
  refine Runs.st (fun t' k' => XS.iloadN X8_.here hx rfl (hb hby d_jdk_52_method_21_27) rfl k') ?_
  refine Runs.st (fun t' k' => XS.iload X8_.here hx rfl (hb hby d_jdk_52_method_21_28) rfl k') ?_
  refine Runs.st (fun t' k' => XS.i2b X8_.here hx rfl (hb hby d_jdk_52_method_21_30) rfl k') ?_
  obtain ⟨cl10_, Ar10_, q10_, S10_, M10_, Ha10_, G10_⟩ := V_b
  have hin10_ : ¬ ((4 : Int32) < 0 ∨ cl10_.slots.size ≤ ((4 : Int32)).toNatClampNeg) := inb_of S10_ ⟨by decide, by decide⟩
  obtain ⟨T10_, h10_, X10_, e10_, W10_, st10_⟩ := stB X8_ hx hZ e8_ Ar10_ (j := (4 : Int32)) hin10_ (g := (mkF m 31 #[.val (.ref a), .val (.int (4 : Int32)), .val (.ref b), .val (.int (4 : Int32)), .val (.int (6 : Int32)), .val (.int (4 : Int32)), .val (.int c4)] [(.int (c4.toInt8.toInt32)), (.int (4 : Int32)), (.ref b)])) rfl rfl (hb hby d_jdk_52_method_21_31)
  refine Runs.st (st10_) ?_
  have V_b := Arv.set Ar10_ q10_ S10_ M10_ Ha10_ G10_ (fits_nar_byte _) W10_ 4 rfl (Nat.le_of_ble_eq_true rfl)
  replace V_a := V_a.other W10_ ne_a_b
  replace sz := Nat.le_trans sz (Keep.of_wr W10_).1
  have N10_ := Fr.snoc X10_ N8_ g_b
  replace K := K.wr W10_ (Or.inl (List.mem_of_getElem? (i := 0) rfl))
  show Runs p.tables e below _ (T10_.setTop (mkF m 32 #[.val (.ref a), .val (.int (4 : Int32)), .val (.ref b), .val (.int (4 : Int32)), .val (.int (6 : Int32)), .val (.int (4 : Int32)), .val (.int c4)] []))
  refine Runs.st (fun t' k' => XS.iinc X10_.here hx rfl (hb hby d_jdk_52_method_21_32) rfl (l' := #[.val (.ref a), .val (.int ((4 : Int32) + (1 : Int32))), .val (.ref b), .val (.int (4 : Int32)), .val (.int (6 : Int32)), .val (.int (4 : Int32)), .val (.int c4)]) rfl k') ?_
  refine Runs.st (fun t' k' => XS.iinc X10_.here hx rfl (hb hby d_jdk_52_method_21_35) rfl (l' := #[.val (.ref a), .val (.int ((4 : Int32) + (1 : Int32))), .val (.ref b), .val (.int ((4 : Int32) + (1 : Int32))), .val (.int (6 : Int32)), .val (.int (4 : Int32)), .val (.int c4)]) rfl k') ?_
  refine Runs.st (fun t' k' => XS.iinc X10_.here hx rfl (hb hby d_jdk_52_method_21_38) rfl (l' := #[.val (.ref a), .val (.int ((4 : Int32) + (1 : Int32))), .val (.ref b), .val (.int ((4 : Int32) + (1 : Int32))), .val (.int (6 : Int32)), .val (.int ((4 : Int32) + (1 : Int32))), .val (.int c4)]) rfl k') ?_
  show Runs p.tables e below _ (T10_.setTop (mkF m 41 #[.val (.ref a), .val (.int ((4 : Int32) + (1 : Int32))), .val (.ref b), .val (.int ((4 : Int32) + (1 : Int32))), .val (.int (6 : Int32)), .val (.int ((4 : Int32) + (1 : Int32))), .val (.int c4)] []))
  rw [show ((4 : Int32) + (1 : Int32)) = (5 : Int32) from rfl]
  show Runs p.tables e below _ (T10_.setTop (mkF m 41 #[.val (.ref a), .val (.int (5 : Int32)), .val (.ref b), .val (.int (5 : Int32)), .val (.int (6 : Int32)), .val (.int (5 : Int32)), .val (.int c4)] []))
  refine Runs.st (fun t' k' => XS.goto X10_.here hx rfl (pc0 := 41) (pc' := 3) rfl (hb hby d_jdk_52_method_21_41) (by decide) (by decide) k') ?_
  refine Runs.st (fun t' k' => XS.iload X10_.here hx rfl (hb hby d_jdk_52_method_21_3) rfl k') ?_
  show Runs p.tables e below _ (T10_.setTop (mkF m 5 #[.val (.ref a), .val (.int (5 : Int32)), .val (.ref b), .val (.int (5 : Int32)), .val (.int (6 : Int32)), .val (.int (5 : Int32)), .val (.int c4)] [(.int (5 : Int32))]))
  refine Runs.st (fun t' k' => XS.iload X10_.here hx rfl (hb hby d_jdk_52_method_21_5) rfl k') ?_
  refine Runs.st (fun t' k' => XS.icmpNo X10_.here hx rfl (hb hby d_jdk_52_method_21_7) rfl (tlt (by decide)).2.1 k') ?_
  show Runs p.tables e below _ (T10_.setTop (mkF m 10 #[.val (.ref a), .val (.int (5 : Int32)), .val (.ref b), .val (.int (5 : Int32)), .val (.int (6 : Int32)), .val (.int (5 : Int32)), .val (.int c4)] []))
  refine Runs.st (fun t' k' => XS.aloadN X10_.here hx rfl (hb hby d_jdk_52_method_21_10) rfl rfl k') ?_
  refine Runs.st (fun t' k' => XS.iloadN X10_.here hx rfl (hb hby d_jdk_52_method_21_11) rfl k') ?_
  obtain ⟨cl11_, Ar11_, -, S11_, M11_, Ha11_, -⟩ := id V_a
  have hin11_ : ¬ ((5 : Int32) < 0 ∨ cl11_.slots.size ≤ ((5 : Int32)).toNatClampNeg) := inb_of S11_ ⟨by decide, by decide⟩
  refine Runs.st (X10_.caload hx (j := (5 : Int32)) (v := (.int c5)) (by rw [e10_]; exact Ar11_.1) (State.isArrayOf_alike hZ.alike Ar11_.2.1) Ar11_.2.2 hin11_ (Ha11_.at hin11_ rfl) (g := (mkF m 12 #[.val (.ref a), .val (.int (5 : Int32)), .val (.ref b), .val (.int (5 : Int32)), .val (.int (6 : Int32)), .val (.int (5 : Int32)), .val (.int c4)] [(.int (5 : Int32)), (.ref a)])) rfl rfl (hb hby d_jdk_52_method_21_12)) ?_
  show Runs p.tables e below _ (T10_.setTop (mkF m 13 #[.val (.ref a), .val (.int (5 : Int32)), .val (.ref b), .val (.int (5 : Int32)), .val (.int (6 : Int32)), .val (.int (5 : Int32)), .val (.int c4)] [(.int c5)]))
  refine Runs.st (fun t' k' => XS.istore X10_.here hx rfl (hb hby d_jdk_52_method_21_13) rfl (l' := #[.val (.ref a), .val (.int (5 : Int32)), .val (.ref b), .val (.int (5 : Int32)), .val (.int (6 : Int32)), .val (.int (5 : Int32)), .val (.int c5)]) rfl k') ?_
  refine Runs.st (fun t' k' => XS.iload X10_.here hx rfl (hb hby d_jdk_52_method_21_15) rfl k') ?_
  refine Runs.st (fun t' k' => XS.sipush X10_.here hx rfl (hb hby d_jdk_52_method_21_17) k') ?_
  refine Runs.st (fun t' k' => XS.icmpYes X10_.here hx rfl (pc0 := 20) (pc' := 26) rfl (hb hby d_jdk_52_method_21_20) rfl (flt u5).2.2.2 (by decide) (by decide) k') ?_
  show Runs p.tables e below _ (T10_.setTop (mkF m 26 #[.val (.ref a), .val (.int (5 : Int32)), .val (.ref b), .val (.int (5 : Int32)), .val (.int (6 : Int32)), .val (.int (5 : Int32)), .val (.int c5)] []))
  refine Runs.st (fun t' k' => XS.aloadN X10_.here hx rfl (hb hby d_jdk_52_method_21_26) rfl rfl k') ?_
  refine Runs.st (fun t' k' => XS.iloadN X10_.here hx rfl (hb hby d_jdk_52_method_21_27) rfl k') ?_
  refine Runs.st (fun t' k' => XS.iload X10_.here hx rfl (hb hby d_jdk_52_method_21_28) rfl k') ?_
  refine Runs.st (fun t' k' => XS.i2b X10_.here hx rfl (hb hby d_jdk_52_method_21_30) rfl k') ?_
  obtain ⟨cl12_, Ar12_, q12_, S12_, M12_, Ha12_, G12_⟩ := V_b
  have hin12_ : ¬ ((5 : Int32) < 0 ∨ cl12_.slots.size ≤ ((5 : Int32)).toNatClampNeg) := inb_of S12_ ⟨by decide, by decide⟩
  obtain ⟨T12_, h12_, X12_, e12_, W12_, st12_⟩ := stB X10_ hx hZ e10_ Ar12_ (j := (5 : Int32)) hin12_ (g := (mkF m 31 #[.val (.ref a), .val (.int (5 : Int32)), .val (.ref b), .val (.int (5 : Int32)), .val (.int (6 : Int32)), .val (.int (5 : Int32)), .val (.int c5)] [(.int (c5.toInt8.toInt32)), (.int (5 : Int32)), (.ref b)])) rfl rfl (hb hby d_jdk_52_method_21_31)
  refine Runs.st (st12_) ?_
  have V_b := Arv.set Ar12_ q12_ S12_ M12_ Ha12_ G12_ (fits_nar_byte _) W12_ 5 rfl (Nat.le_of_ble_eq_true rfl)
  replace V_a := V_a.other W12_ ne_a_b
  replace sz := Nat.le_trans sz (Keep.of_wr W12_).1
  have N12_ := Fr.snoc X12_ N10_ g_b
  replace K := K.wr W12_ (Or.inl (List.mem_of_getElem? (i := 0) rfl))
  show Runs p.tables e below _ (T12_.setTop (mkF m 32 #[.val (.ref a), .val (.int (5 : Int32)), .val (.ref b), .val (.int (5 : Int32)), .val (.int (6 : Int32)), .val (.int (5 : Int32)), .val (.int c5)] []))
  refine Runs.st (fun t' k' => XS.iinc X12_.here hx rfl (hb hby d_jdk_52_method_21_32) rfl (l' := #[.val (.ref a), .val (.int ((5 : Int32) + (1 : Int32))), .val (.ref b), .val (.int (5 : Int32)), .val (.int (6 : Int32)), .val (.int (5 : Int32)), .val (.int c5)]) rfl k') ?_
  refine Runs.st (fun t' k' => XS.iinc X12_.here hx rfl (hb hby d_jdk_52_method_21_35) rfl (l' := #[.val (.ref a), .val (.int ((5 : Int32) + (1 : Int32))), .val (.ref b), .val (.int ((5 : Int32) + (1 : Int32))), .val (.int (6 : Int32)), .val (.int (5 : Int32)), .val (.int c5)]) rfl k') ?_
  refine Runs.st (fun t' k' => XS.iinc X12_.here hx rfl (hb hby d_jdk_52_method_21_38) rfl (l' := #[.val (.ref a), .val (.int ((5 : Int32) + (1 : Int32))), .val (.ref b), .val (.int ((5 : Int32) + (1 : Int32))), .val (.int (6 : Int32)), .val (.int ((5 : Int32) + (1 : Int32))), .val (.int c5)]) rfl k') ?_
  show Runs p.tables e below _ (T12_.setTop (mkF m 41 #[.val (.ref a), .val (.int ((5 : Int32) + (1 : Int32))), .val (.ref b), .val (.int ((5 : Int32) + (1 : Int32))), .val (.int (6 : Int32)), .val (.int ((5 : Int32) + (1 : Int32))), .val (.int c5)] []))
  rw [show ((5 : Int32) + (1 : Int32)) = (6 : Int32) from rfl]
  show Runs p.tables e below _ (T12_.setTop (mkF m 41 #[.val (.ref a), .val (.int (6 : Int32)), .val (.ref b), .val (.int (6 : Int32)), .val (.int (6 : Int32)), .val (.int (6 : Int32)), .val (.int c5)] []))
  refine Runs.st (fun t' k' => XS.goto X12_.here hx rfl (pc0 := 41) (pc' := 3) rfl (hb hby d_jdk_52_method_21_41) (by decide) (by decide) k') ?_
  refine Runs.st (fun t' k' => XS.iload X12_.here hx rfl (hb hby d_jdk_52_method_21_3) rfl k') ?_
  show Runs p.tables e below _ (T12_.setTop (mkF m 5 #[.val (.ref a), .val (.int (6 : Int32)), .val (.ref b), .val (.int (6 : Int32)), .val (.int (6 : Int32)), .val (.int (6 : Int32)), .val (.int c5)] [(.int (6 : Int32))]))
  refine Runs.st (fun t' k' => XS.iload X12_.here hx rfl (hb hby d_jdk_52_method_21_5) rfl k') ?_
  refine Runs.st (fun t' k' => XS.icmpYes X12_.here hx rfl (pc0 := 7) (pc' := 44) rfl (hb hby d_jdk_52_method_21_7) rfl (flt (by decide)).2.1 (by decide) (by decide) k') ?_
  show Runs p.tables e below _ (T12_.setTop (mkF m 44 #[.val (.ref a), .val (.int (6 : Int32)), .val (.ref b), .val (.int (6 : Int32)), .val (.int (6 : Int32)), .val (.int (6 : Int32)), .val (.int c5)] []))
  refine Runs.st (fun t' k' => XS.iload X12_.here hx rfl (hb hby d_jdk_52_method_21_44) rfl k') ?_
  refine Runs.ret X12_ hlk (v := (some (.int (6 : Int32)))) (fun h => by rw [hret] at h; cases h) (by decide) (by decide) ?_ (fun fs hr => retI X12_ hx hret (hb hby d_jdk_52_method_21_46) hr)
  try rw [e12_]
  exact ⟨rfl, N12_, K, V_b⟩
def Q_rmCB6 (Z : State) (a : Addr) (c0 c1 c2 c3 c4 c5 : Int32) (k1 : ClassId) (h0 : Heap) (n0 : Nat) : Option Value → Heap → List Loc → Prop := (fun v h L => ∃ b k2, v = some (.ref b) ∧ Fr n0 L ∧ Keep h0 h [] ∧ h0.size ≤ b ∧ Arv Z h b k2 .byte (6 : Int32) [(.int (nar .byte (c0.toInt8.toInt32))), (.int (nar .byte (c1.toInt8.toInt32))), (.int (nar .byte (c2.toInt8.toInt32))), (.int (nar .byte (c3.toInt8.toInt32))), (.int (nar .byte (c4.toInt8.toInt32))), (.int (nar .byte (c5.toInt8.toInt32)))] (.int (0 : Int32)))
set_option maxRecDepth 65536 in
set_option maxHeartbeats 40000000 in
theorem rmCB6 (l : Launch) (Z : State) (a0 : Array Value) (hw : ∀ d ∈ tables_1, d.before a0 Z = true) (ws : List Jvm.Cond) (a : Addr) (c0 c1 c2 c3 c4 c5 : Int32) (k1 : ClassId) (h0 : Heap) (n0 : Nat) (Z0 : n0 ≤ h0.size) (V_a : Arv Z h0 a k1 .char (6 : Int32) [(.int c0), (.int c1), (.int c2), (.int c3), (.int c4), (.int c5)] (.int (0 : Int32))) (u0 : ¬ ((255 : Int32) < c0)) (u1 : ¬ ((255 : Int32) < c1)) (u2 : ¬ ((255 : Int32) < c2)) (u3 : ¬ ((255 : Int32) < c3)) (u4 : ¬ ((255 : Int32) < c4)) (u5 : ¬ ((255 : Int32) < c5)) :
    MetFree l (⟨"java/lang/StringUTF16", "compress", "([CII)[B"⟩ : MethodName) (head1 (Jvm.Cond.code (⟨"java/lang/StringUTF16", "compress", "([CII)[B"⟩ : MethodName) jdk_52_method_16_code 6 (some (.array .byte)) :: ws) ({ frames := 1, cells := 1, slots := 6, locals := 18 } : Room)) (fun ar_ U => ar_ = #[(.ref a), (.int (0 : Int32)), (.int (6 : Int32))] ∧ Z.Warmed39 U.vm ∧ U.heap = h0) (fun _ _ _ _ _ => True) (fun _ U o U' => Phi U (Q_rmCB6 Z a c0 c1 c2 c3 c4 c5 k1 h0 n0) ({ frames := 1, cells := 1, slots := 6, locals := 18 } : Room).cells ({ frames := 1, cells := 1, slots := 6, locals := 18 } : Room).slots o U') := by
  refine MetFree.of_bodySF (plainFor_of_name pn_java_lang_StringUTF16) hisR ?_
  intro p e s m args below meth c s₁ Bd hml0 hP hK
  obtain ⟨rfl, hZ, hh⟩ := hP
  have hx := Bd.exec
  have hby := Bd.bytes
  have hlk := Bd.notSynchronized
  have hml : c.maxLocals = 6 := hml0
  have hown : s.vm.findClass "java/lang/StringUTF16" = some m.cls := findClass_of_methodNamed Bd.named
  have hown0 := hown
  have hnm := (name_of_methodNamed Bd.named Bd.method).1
  have hret := Bd.returns
  have X0 : Stand p l e ({ frames := 1, cells := 1, slots := 6, locals := 18 } : Room) s m #[(.ref a), (.int (0 : Int32)), (.int (6 : Int32))] below meth c s₁ [] 0 0 := Stand.of_body Bd
  have e0 : s₁.heap = h0 := by rw [← hh, Bd.state]; rfl
  have N0 := Fr.nil n0
  have sz := Z0
  have K := Keep.refl h0 []
  show Runs p.tables e below (Phi s (Q_rmCB6 Z a c0 c1 c2 c3 c4 c5 k1 h0 n0) ({ frames := 1, cells := 1, slots := 6, locals := 18 } : Room).cells ({ frames := 1, cells := 1, slots := 6, locals := 18 } : Room).slots) _
  refine Runs.st (fun t' k' => castTop (ef_jdk_52_method_16_RII m a (0 : Int32) (6 : Int32) ) k') ?_
  show Runs p.tables e below _ (s₁.setTop (mkF m 0 #[.val (.ref a), .val (.int (0 : Int32)), .val (.int (6 : Int32)), .unset, .unset, .unset] []))
  refine Runs.st (fun t' k' => XS.iloadN X0.here hx rfl (hb hby d_jdk_52_method_16_0) rfl k') ?_
  obtain ⟨T1_, h1_, k1_, X1_, e1_, E1_, A1_, st1_⟩ := newP X0 hx hZ (hw _ (List.mem_of_getElem? (i := 20) rfl)) e0 (g := (mkF m 1 #[.val (.ref a), .val (.int (0 : Int32)), .val (.int (6 : Int32)), .unset, .unset, .unset] [(.int (6 : Int32))])) rfl (hb hby d_jdk_52_method_16_1) rfl (by decide) (cap := 6) (by decide) (by decide) (by decide) (by decide)
  refine Runs.st (st1_) ?_
  obtain ⟨b, g1_⟩ : ∃ z, z = h0.size := ⟨_, rfl⟩
  rw [← g1_] at A1_
  try rw [← g1_]
  have g_b : n0 ≤ b := Nat.le_trans sz (Nat.le_of_eq g1_.symm)
  have sz_b : h0.size ≤ b := Nat.le_trans K.1 (Nat.le_of_eq g1_.symm)
  have ne_a_b : a ≠ b := Nat.ne_of_lt (Nat.lt_of_lt_of_le V_a.lt (Nat.le_of_eq g1_.symm))
  replace V_a := V_a.ext E1_
  replace sz := Nat.le_trans sz E1_.1
  replace K := K.ext E1_
  have V_b : Arv Z h1_ b k1_ .byte (6 : Int32) [(.int (0 : Int32)), (.int (0 : Int32)), (.int (0 : Int32)), (.int (0 : Int32)), (.int (0 : Int32)), (.int (0 : Int32))] (.int (0 : Int32)) := (Arv.new A1_ (by decide)).pad (pad_rep [] (.int (0 : Int32)) 6)
  show Runs p.tables e below _ (T1_.setTop (mkF m 3 #[.val (.ref a), .val (.int (0 : Int32)), .val (.int (6 : Int32)), .unset, .unset, .unset] [(.ref b)]))
  refine Runs.st (fun t' k' => XS.astoreN X1_.here hx rfl (hb hby d_jdk_52_method_16_3) rfl rfl (l' := #[.val (.ref a), .val (.int (0 : Int32)), .val (.int (6 : Int32)), .val (.ref b), .unset, .unset]) rfl k') ?_
  refine Runs.st (fun t' k' => XS.aloadN X1_.here hx rfl (hb hby d_jdk_52_method_16_4) rfl rfl k') ?_
  refine Runs.st (fun t' k' => XS.iloadN X1_.here hx rfl (hb hby d_jdk_52_method_16_5) rfl k') ?_
  refine Runs.st (fun t' k' => XS.aloadN X1_.here hx rfl (hb hby d_jdk_52_method_16_6) rfl rfl k') ?_
  refine Runs.st (fun t' k' => XS.iconst X1_.here hx rfl (hb hby d_jdk_52_method_16_7) k') ?_
  show Runs p.tables e below _ (T1_.setTop (mkF m 8 #[.val (.ref a), .val (.int (0 : Int32)), .val (.int (6 : Int32)), .val (.ref b), .unset, .unset] [(.int (0 : Int32)), (.ref b), (.int (0 : Int32)), (.ref a)]))
  refine Runs.st (fun t' k' => XS.iloadN X1_.here hx rfl (hb hby d_jdk_52_method_16_8) rfl k') ?_
  obtain ⟨_, _, ⟨T2_, L2_, k2_, n2_⟩, -, X2_, ⟨Lc2_, hQ2_, l2_, y2_, z2_⟩, st2_⟩ := Jvm.LawKit.callS X1_ hx (y := (⟨"java/lang/StringUTF16", "compress", "([CI[BII)I"⟩ : MethodName)) hown (mvT hZ (hw _ (List.mem_of_getElem? (i := 21) rfl))) (mvT hZ (hw _ (List.mem_of_getElem? (i := 22) rfl))) (mvT hZ (hw _ (List.mem_of_getElem? (i := 18) rfl))) (mvT hZ (hw _ (List.mem_of_getElem? (i := 23) rfl))) (by decide) (backOf (W := 0) (rmCA6 l Z a0 hw [] a b c0 c1 c2 c3 c4 c5 k1 _ h1_ n0 sz V_a V_b ne_a_b g_b u0 u1 u2 u3 u4 u5) hZ (hw _ (List.mem_of_getElem? (i := 23) rfl)) (hw _ (List.mem_of_getElem? (i := 18) rfl)) (by decide) (by decide)) (g := (mkF m 9 #[.val (.ref a), .val (.int (0 : Int32)), .val (.int (6 : Int32)), .val (.ref b), .unset, .unset] [(.int (6 : Int32)), (.int (0 : Int32)), (.ref b), (.int (0 : Int32)), (.ref a)])) rfl (by rw [hml]; rfl) (argsL := [(.ref a), (.int (0 : Int32)), (.ref b), (.int (0 : Int32)), (.int (6 : Int32))]) (rest := []) (lenOf pd__28_5bCI_5bBII_29I rfl) rfl (by show 2 * 0 + _ ≤ _; exact Nat.le_of_eq rfl) (hb hby d_jdk_52_method_16_9) (fun _ _ => ⟨rfl, e1_, (by decide : 1 + 0 ≤ _), (by decide : 6 + 0 ≤ _)⟩)
  dsimp only [Pt.U, Pt.locs, Pt.cells, Pt.slots] at X2_ l2_ y2_ z2_ st2_ hQ2_
  subst l2_ y2_ z2_
  obtain ⟨rfl, N2_q, K2_, V_b⟩ := hQ2_
  have N2_ := Fr.app N0 N2_q
  refine Runs.st (st2_) ?_
  replace X2_ := wider X2_ (c' := 1) (s' := 6) (by decide) (by decide)
  replace V_a := V_a.keep K2_ (ninS ne_a_b nin0)
  replace sz := Nat.le_trans sz K2_.1
  replace K := K.trans K2_ (allS (Or.inr sz_b) all0)
  show Runs p.tables e below _ (T2_.setTop (mkF m 12 #[.val (.ref a), .val (.int (0 : Int32)), .val (.int (6 : Int32)), .val (.ref b), .unset, .unset] [(.int (6 : Int32))]))
  refine Runs.st (fun t' k' => XS.istore X2_.here hx rfl (hb hby d_jdk_52_method_16_12) rfl (l' := #[.val (.ref a), .val (.int (0 : Int32)), .val (.int (6 : Int32)), .val (.ref b), .val (.int (6 : Int32)), .unset]) rfl k') ?_
  refine Runs.st (fun t' k' => XS.iload X2_.here hx rfl (hb hby d_jdk_52_method_16_14) rfl k') ?_
  refine Runs.st (fun t' k' => XS.iloadN X2_.here hx rfl (hb hby d_jdk_52_method_16_16) rfl k') ?_
  refine Runs.st (fun t' k' => XS.icmpYes X2_.here hx rfl (pc0 := 17) (pc' := 57) rfl (hb hby d_jdk_52_method_16_17) rfl (teq rfl).1 (by decide) (by decide) k') ?_
  show Runs p.tables e below _ (T2_.setTop (mkF m 57 #[.val (.ref a), .val (.int (0 : Int32)), .val (.int (6 : Int32)), .val (.ref b), .val (.int (6 : Int32)), .unset] []))
  refine Runs.st (fun t' k' => XS.aloadN X2_.here hx rfl (hb hby d_jdk_52_method_16_57) rfl rfl k') ?_
  refine Runs.ret X2_ hlk (v := (some (.ref b))) (fun h => by rw [hret] at h; cases h) (by decide) (by decide) ?_ (fun fs hr => retOut X2_ hx hret rfl (Or.inr (Or.inr (Or.inr (Or.inr ⟨rfl, rfl, rfl⟩)))) (hb hby d_jdk_52_method_16_58) hr)
  exact ⟨b, _, rfl, N2_, K, sz_b, V_b⟩
def Q_rmCd6 (Z : State) (b : Addr) (k2 : ClassId) (vs : List Value) (h0 : Heap) (n0 : Nat) : Option Value → Heap → List Loc → Prop := (fun v h L => v = some (.int (0 : Int32)) ∧ Fr n0 L ∧ h = h0)
set_option maxRecDepth 65536 in
set_option maxHeartbeats 40000000 in
theorem rmCd6 (l : Launch) (Z : State) (a0 : Array Value) (hw : ∀ d ∈ tables_1, d.before a0 Z = true) (ws : List Jvm.Cond) (b : Addr) (k2 : ClassId) (vs : List Value) (h0 : Heap) (n0 : Nat) (Z0 : n0 ≤ h0.size) (V_b : Arv Z h0 b k2 .byte (6 : Int32) vs (.int (0 : Int32))) :
    MetFree l (⟨"java/lang/StringUTF16", "coderFromArrayLen", "([BI)B"⟩ : MethodName) (head1 (Jvm.Cond.code (⟨"java/lang/StringUTF16", "coderFromArrayLen", "([BI)B"⟩ : MethodName) jdk_52_method_15_code 2 (some .byte) :: ws) ({ frames := 0, cells := 0, slots := 0, locals := 0 } : Room)) (fun ar_ U => ar_ = #[(.ref b), (.int (6 : Int32))] ∧ Z.Warmed39 U.vm ∧ U.heap = h0) (fun _ _ _ _ _ => True) (fun _ U o U' => Phi U (Q_rmCd6 Z b k2 vs h0 n0) ({ frames := 0, cells := 0, slots := 0, locals := 0 } : Room).cells ({ frames := 0, cells := 0, slots := 0, locals := 0 } : Room).slots o U') := by
  refine MetFree.of_bodySF (plainFor_of_name pn_java_lang_StringUTF16) hisR ?_
  intro p e s m args below meth c s₁ Bd hml0 hP hK
  obtain ⟨rfl, hZ, hh⟩ := hP
  have hx := Bd.exec
  have hby := Bd.bytes
  have hlk := Bd.notSynchronized
  have hml : c.maxLocals = 2 := hml0
  have hown : s.vm.findClass "java/lang/StringUTF16" = some m.cls := findClass_of_methodNamed Bd.named
  have hown0 := hown
  have hnm := (name_of_methodNamed Bd.named Bd.method).1
  have hret := Bd.returns
  have X0 : Stand p l e ({ frames := 0, cells := 0, slots := 0, locals := 0 } : Room) s m #[(.ref b), (.int (6 : Int32))] below meth c s₁ [] 0 0 := Stand.of_body Bd
  have e0 : s₁.heap = h0 := by rw [← hh, Bd.state]; rfl
  have N0 := Fr.nil n0
  have sz := Z0
  have K := Keep.refl h0 []
  show Runs p.tables e below (Phi s (Q_rmCd6 Z b k2 vs h0 n0) ({ frames := 0, cells := 0, slots := 0, locals := 0 } : Room).cells ({ frames := 0, cells := 0, slots := 0, locals := 0 } : Room).slots) _
  refine Runs.st (fun t' k' => castTop (ef_jdk_52_method_15_RI m b (6 : Int32) ) k') ?_
  show Runs p.tables e below _ (s₁.setTop (mkF m 0 #[.val (.ref b), .val (.int (6 : Int32))] []))
  refine Runs.st (fun t' k' => XS.iloadN X0.here hx rfl (hb hby d_jdk_52_method_15_0) rfl k') ?_
  refine Runs.st (fun t' k' => XS.aloadN X0.here hx rfl (hb hby d_jdk_52_method_15_1) rfl rfl k') ?_
  obtain ⟨cl1_, Ar1_, -, S1_, M1_, -, -⟩ := id V_b
  refine Runs.st (X0.arraylength hx (by rw [e0]; exact Ar1_.1) (State.isArrayOf_alike hZ.alike Ar1_.2.1) (g := (mkF m 2 #[.val (.ref b), .val (.int (6 : Int32))] [(.ref b), (.int (6 : Int32))])) rfl rfl (hb hby d_jdk_52_method_15_2)) ?_
  rw [len_of S1_ M1_]
  show Runs p.tables e below _ (s₁.setTop (mkF m 3 #[.val (.ref b), .val (.int (6 : Int32))] [(.int (6 : Int32)), (.int (6 : Int32))]))
  refine Runs.st (fun t' k' => XS.isub X0.here hx rfl (hb hby d_jdk_52_method_15_3) rfl k') ?_
  refine Runs.st (fun t' k' => XS.bipush X0.here hx rfl (hb hby d_jdk_52_method_15_4) k') ?_
  refine Runs.st (fun t' k' => XS.iushr X0.here hx rfl (hb hby d_jdk_52_method_15_6) rfl k') ?_
  refine Runs.st (fun t' k' => XS.i2b X0.here hx rfl (hb hby d_jdk_52_method_15_7) rfl k') ?_
  refine Runs.ret X0 hlk (v := (some (.int (nar .byte (((((6 : Int32) - (6 : Int32)).toUInt32 >>> ((31 : Int32) &&& 31).toUInt32).toInt32).toInt8.toInt32))))) (fun h => by rw [hret] at h; cases h) (by decide) (by decide) ?_ (fun fs hr => retN X0 hx (t := .byte) hret (by simp) (hb hby d_jdk_52_method_15_8) hr)
  try rw [e0]
  exact ⟨congrArg (fun z => some (Value.int z)) (by decide), N0, rfl⟩
def Q_rmID6 (Z : State) (a : Addr) (d : Addr) (c0 c1 c2 c3 c4 c5 : Int32) (k1 : ClassId) (zc : Int32) (h0 : Heap) (n0 : Nat) : Option Value → Heap → List Loc → Prop := (fun v h L => v = none ∧ Fr n0 L ∧ Keep h0 h [a] ∧ Exa Z h a "java/lang/String" ∧ Fld Z h a "java/lang/String" "coder" "B" (.int (0 : Int32)) ∧ ∃ b k2, h0.size ≤ b ∧ Fld Z h a "java/lang/String" "value" "[B" (.ref b) ∧ Arv Z h b k2 .byte (6 : Int32) [(.int (nar .byte (c0.toInt8.toInt32))), (.int (nar .byte (c1.toInt8.toInt32))), (.int (nar .byte (c2.toInt8.toInt32))), (.int (nar .byte (c3.toInt8.toInt32))), (.int (nar .byte (c4.toInt8.toInt32))), (.int (nar .byte (c5.toInt8.toInt32)))] (.int (0 : Int32)))
set_option maxRecDepth 65536 in
set_option maxHeartbeats 40000000 in
theorem rmID6 (l : Launch) (Z : State) (a0 : Array Value) (hw : ∀ d ∈ tables_1, d.before a0 Z = true) (ws : List Jvm.Cond) (a : Addr) (d : Addr) (c0 c1 c2 c3 c4 c5 : Int32) (k1 : ClassId) (zc : Int32) (h0 : Heap) (n0 : Nat) (Z0 : n0 ≤ h0.size) (E_a : Exa Z h0 a "java/lang/String") (F_v : Fld Z h0 a "java/lang/String" "value" "[B" .null) (F_c : Fld Z h0 a "java/lang/String" "coder" "B" (.int (0 : Int32))) (g_a : n0 ≤ a) (V_d : Arv Z h0 d k1 .char (6 : Int32) [(.int c0), (.int c1), (.int c2), (.int c3), (.int c4), (.int c5)] (.int (0 : Int32))) (Sc : Sta Z h0 "java/lang/String" "COMPACT_STRINGS" "Z" (.int zc)) (hzc : ¬ zc = 0) (u0 : ¬ ((255 : Int32) < c0)) (u1 : ¬ ((255 : Int32) < c1)) (u2 : ¬ ((255 : Int32) < c2)) (u3 : ¬ ((255 : Int32) < c3)) (u4 : ¬ ((255 : Int32) < c4)) (u5 : ¬ ((255 : Int32) < c5)) :
    MetFree l (⟨"java/lang/String", "<init>", "([CIILjava/lang/Void;)V"⟩ : MethodName) (head1 (Jvm.Cond.code (⟨"java/lang/String", "<init>", "([CIILjava/lang/Void;)V"⟩ : MethodName) jdk_42_method_149_code 6 none :: ws) ({ frames := 2, cells := 1, slots := 6, locals := 35 } : Room)) (fun ar_ U => ar_ = #[(.ref a), (.ref d), (.int (0 : Int32)), (.int (6 : Int32)), .null] ∧ Z.Warmed39 U.vm ∧ U.heap = h0) (fun _ _ _ _ _ => True) (fun _ U o U' => Phi U (Q_rmID6 Z a d c0 c1 c2 c3 c4 c5 k1 zc h0 n0) ({ frames := 2, cells := 1, slots := 6, locals := 35 } : Room).cells ({ frames := 2, cells := 1, slots := 6, locals := 35 } : Room).slots o U') := by
  refine MetFree.of_bodySF (plainFor_of_name pn_java_lang_String) hisR ?_
  intro p e s m args below meth c s₁ Bd hml0 hP hK
  obtain ⟨rfl, hZ, hh⟩ := hP
  have hx := Bd.exec
  have hby := Bd.bytes
  have hlk := Bd.notSynchronized
  have hml : c.maxLocals = 6 := hml0
  have hown : s.vm.findClass "java/lang/String" = some m.cls := findClass_of_methodNamed Bd.named
  have hown0 := hown
  have hnm := (name_of_methodNamed Bd.named Bd.method).1
  have hret := Bd.returns
  have X0 : Stand p l e ({ frames := 2, cells := 1, slots := 6, locals := 35 } : Room) s m #[(.ref a), (.ref d), (.int (0 : Int32)), (.int (6 : Int32)), .null] below meth c s₁ [] 0 0 := Stand.of_body Bd
  have e0 : s₁.heap = h0 := by rw [← hh, Bd.state]; rfl
  have N0 := Fr.nil n0
  have sz := Z0
  have K := Keep.refl h0 [a]
  show Runs p.tables e below (Phi s (Q_rmID6 Z a d c0 c1 c2 c3 c4 c5 k1 zc h0 n0) ({ frames := 2, cells := 1, slots := 6, locals := 35 } : Room).cells ({ frames := 2, cells := 1, slots := 6, locals := 35 } : Room).slots) _
  refine Runs.st (fun t' k' => castTop (ef_jdk_42_method_149_RRIIN m a d (0 : Int32) (6 : Int32) ) k') ?_
  show Runs p.tables e below _ (s₁.setTop (mkF m 0 #[.val (.ref a), .val (.ref d), .val (.int (0 : Int32)), .val (.int (6 : Int32)), .val .null, .unset] []))
  refine Runs.st (fun t' k' => XS.aloadN X0.here hx rfl (hb hby d_jdk_42_method_149_0) rfl rfl k') ?_
  obtain ⟨T1_, X1_, e1_, st1_⟩ := initO X0 hx hZ hown (hw _ (List.mem_of_getElem? (i := 12) rfl)) (hw _ (List.mem_of_getElem? (i := 13) rfl)) (hw _ (List.mem_of_getElem? (i := 14) rfl)) e0 (g := (mkF m 1 #[.val (.ref a), .val (.ref d), .val (.int (0 : Int32)), .val (.int (6 : Int32)), .val .null, .unset] [(.ref a)])) rfl (by rw [hml]; rfl) rfl (hb hby d_jdk_42_method_149_1) (by decide) (W := 0) (by show 2 * 0 + _ ≤ _; exact Nat.le_of_eq rfl) (by decide)
  refine Runs.st (st1_) ?_
  show Runs p.tables e below _ (T1_.setTop (mkF m 4 #[.val (.ref a), .val (.ref d), .val (.int (0 : Int32)), .val (.int (6 : Int32)), .val .null, .unset] []))
  refine Runs.st (fun t' k' => XS.iloadN X1_.here hx rfl (hb hby d_jdk_42_method_149_4) rfl k') ?_
  refine Runs.st (fun t' k' => XS.ifYes X1_.here hx rfl (pc0 := 5) (pc' := 27) rfl (hb hby d_jdk_42_method_149_5) rfl ((if0 _ _).trans (feq (by decide)).2) (by decide) (by decide) k') ?_
  show Runs p.tables e below _ (T1_.setTop (mkF m 27 #[.val (.ref a), .val (.ref d), .val (.int (0 : Int32)), .val (.int (6 : Int32)), .val .null, .unset] []))
  obtain ⟨T2_, X2_, e2_, st2_⟩ := getS2 X1_ hx hZ hown (host := "") (Or.inl (hw _ (List.mem_of_getElem? (i := 15) rfl))) Via.refl e1_ Sc (g := (mkF m 27 #[.val (.ref a), .val (.ref d), .val (.int (0 : Int32)), .val (.int (6 : Int32)), .val .null, .unset] [])) rfl (hb hby d_jdk_42_method_149_27)
  refine Runs.st (st2_) ?_
  show Runs p.tables e below _ (T2_.setTop (mkF m 30 #[.val (.ref a), .val (.ref d), .val (.int (0 : Int32)), .val (.int (6 : Int32)), .val .null, .unset] [(.int zc)]))
  refine Runs.st (fun t' k' => XS.ifNo X2_.here hx rfl (hb hby d_jdk_42_method_149_30) rfl ((if0 _ _).trans (feq hzc).1) k') ?_
  show Runs p.tables e below _ (T2_.setTop (mkF m 33 #[.val (.ref a), .val (.ref d), .val (.int (0 : Int32)), .val (.int (6 : Int32)), .val .null, .unset] []))
  refine Runs.st (fun t' k' => XS.aloadN X2_.here hx rfl (hb hby d_jdk_42_method_149_33) rfl rfl k') ?_
  refine Runs.st (fun t' k' => XS.iloadN X2_.here hx rfl (hb hby d_jdk_42_method_149_34) rfl k') ?_
  refine Runs.st (fun t' k' => XS.iloadN X2_.here hx rfl (hb hby d_jdk_42_method_149_35) rfl k') ?_
  have kz3_ := K.1
  have gz3_ := sz
  have lt3__a := E_a.lt
  obtain ⟨_, _, ⟨T3_, L3_, k3_, n3_⟩, -, X3_, ⟨Lc3_, hQ3_, l3_, y3_, z3_⟩, st3_⟩ := Jvm.LawKit.callS X2_ hx (y := (⟨"java/lang/StringUTF16", "compress", "([CII)[B"⟩ : MethodName)) hown (mvT hZ (hw _ (List.mem_of_getElem? (i := 16) rfl))) (mvT hZ (hw _ (List.mem_of_getElem? (i := 17) rfl))) (mvT hZ (hw _ (List.mem_of_getElem? (i := 18) rfl))) (mvT hZ (hw _ (List.mem_of_getElem? (i := 19) rfl))) (by decide) (backOf (W := 0) (rmCB6 l Z a0 hw [] d c0 c1 c2 c3 c4 c5 k1 h0 n0 sz V_d u0 u1 u2 u3 u4 u5) hZ (hw _ (List.mem_of_getElem? (i := 19) rfl)) (hw _ (List.mem_of_getElem? (i := 18) rfl)) (by decide) (by decide)) (g := (mkF m 36 #[.val (.ref a), .val (.ref d), .val (.int (0 : Int32)), .val (.int (6 : Int32)), .val .null, .unset] [(.int (6 : Int32)), (.int (0 : Int32)), (.ref d)])) rfl (by rw [hml]; rfl) (argsL := [(.ref d), (.int (0 : Int32)), (.int (6 : Int32))]) (rest := []) (lenOf pd__28_5bCII_29_5bB rfl) rfl (by show 2 * 0 + _ ≤ _; exact Nat.le_of_eq rfl) (hb hby d_jdk_42_method_149_36) (fun _ _ => ⟨rfl, e2_, (by decide : 0 + 1 ≤ _), (by decide : 0 + 6 ≤ _)⟩)
  dsimp only [Pt.U, Pt.locs, Pt.cells, Pt.slots] at X3_ l3_ y3_ z3_ st3_ hQ3_
  subst l3_ y3_ z3_
  obtain ⟨b, k2, rfl, N3_q, K3_, szb, V_b⟩ := hQ3_
  have N3_ := Fr.app N0 N3_q
  refine Runs.st (st3_) ?_
  replace X3_ := wider X3_ (c' := 1) (s' := 6) (by decide) (by decide)
  replace E_a := E_a.keep K3_
  replace F_v := F_v.keep K3_ nin0
  replace F_c := F_c.keep K3_ nin0
  replace sz := Nat.le_trans sz K3_.1
  replace K := K.trans K3_ all0
  have sz_b : h0.size ≤ b := Nat.le_trans kz3_ szb
  have g_b : n0 ≤ b := Nat.le_trans gz3_ szb
  have ne_a_b : a ≠ b := Nat.ne_of_lt (Nat.lt_of_lt_of_le lt3__a szb)
  show Runs p.tables e below _ (T3_.setTop (mkF m 39 #[.val (.ref a), .val (.ref d), .val (.int (0 : Int32)), .val (.int (6 : Int32)), .val .null, .unset] [(.ref b)]))
  refine Runs.st (fun t' k' => XS.astore X3_.here hx rfl (hb hby d_jdk_42_method_149_39) rfl rfl (l' := #[.val (.ref a), .val (.ref d), .val (.int (0 : Int32)), .val (.int (6 : Int32)), .val .null, .val (.ref b)]) rfl k') ?_
  refine Runs.st (fun t' k' => XS.aloadN X3_.here hx rfl (hb hby d_jdk_42_method_149_41) rfl rfl k') ?_
  refine Runs.st (fun t' k' => XS.aload X3_.here hx rfl (hb hby d_jdk_42_method_149_42) rfl rfl k') ?_
  refine Runs.st (fun t' k' => XS.iloadN X3_.here hx rfl (hb hby d_jdk_42_method_149_44) rfl k') ?_
  obtain ⟨_, _, ⟨T4_, L4_, k4_, n4_⟩, -, X4_, ⟨Lc4_, hQ4_, l4_, y4_, z4_⟩, st4_⟩ := Jvm.LawKit.callS X3_ hx (y := (⟨"java/lang/StringUTF16", "coderFromArrayLen", "([BI)B"⟩ : MethodName)) hown (mvT hZ (hw _ (List.mem_of_getElem? (i := 24) rfl))) (mvT hZ (hw _ (List.mem_of_getElem? (i := 25) rfl))) (mvT hZ (hw _ (List.mem_of_getElem? (i := 18) rfl))) (mvT hZ (hw _ (List.mem_of_getElem? (i := 26) rfl))) (by decide) (backOf (W := 1) (rmCd6 l Z a0 hw [] b k2 _ T3_.heap n0 sz V_b) hZ (hw _ (List.mem_of_getElem? (i := 26) rfl)) (hw _ (List.mem_of_getElem? (i := 18) rfl)) (by decide) (by decide)) (g := (mkF m 45 #[.val (.ref a), .val (.ref d), .val (.int (0 : Int32)), .val (.int (6 : Int32)), .val .null, .val (.ref b)] [(.int (6 : Int32)), (.ref b), (.ref a)])) rfl (by rw [hml]; rfl) (argsL := [(.ref b), (.int (6 : Int32))]) (rest := [(.ref a)]) (lenOf pd__28_5bBI_29B rfl) rfl (by show 2 * 0 + _ ≤ _; exact Nat.le_of_eq rfl) (hb hby d_jdk_42_method_149_45) (fun _ _ => ⟨rfl, rfl, (by decide : 1 + 0 ≤ _), (by decide : 6 + 0 ≤ _)⟩)
  dsimp only [Pt.U, Pt.locs, Pt.cells, Pt.slots] at X4_ l4_ y4_ z4_ st4_ hQ4_
  subst l4_ y4_ z4_
  obtain ⟨rfl, N4_q, e4_⟩ := hQ4_
  have N4_ := Fr.app N3_ N4_q
  refine Runs.st (st4_) ?_
  replace X4_ := wider X4_ (c' := 1) (s' := 6) (by decide) (by decide)
  show Runs p.tables e below _ (T4_.setTop (mkF m 48 #[.val (.ref a), .val (.ref d), .val (.int (0 : Int32)), .val (.int (6 : Int32)), .val .null, .val (.ref b)] [(.int (0 : Int32)), (.ref a)]))
  obtain ⟨T5_, h5_, X5_, e5_, W5_, st5_⟩ := putFN X4_ hx hZ hown (hw _ (List.mem_of_getElem? (i := 27) rfl)) Via.refl e4_ F_c E_a (Or.inr ⟨(hw _ (List.mem_of_getElem? (i := 28) rfl)), rfl, hnm⟩) (hw _ (List.mem_of_getElem? (i := 3) rfl)) (ty := .byte) (v' := .int (0 : Int32)) (by decide) rfl rfl (g := (mkF m 48 #[.val (.ref a), .val (.ref d), .val (.int (0 : Int32)), .val (.int (6 : Int32)), .val .null, .val (.ref b)] [(.int (0 : Int32)), (.ref a)])) rfl rfl (hb hby d_jdk_42_method_149_48)
  refine Runs.st (st5_) ?_
  replace F_c := F_c.same W5_
  replace E_a := Jvm.RoadKit.Exa.wr W5_ E_a
  replace F_v := F_v.other W5_ (Or.inr (slot_ne (Or.inr (hw _ (List.mem_of_getElem? (i := 30) rfl))) (Or.inr (hw _ (List.mem_of_getElem? (i := 28) rfl))) (by decide) (t := (.array .byte)) (t' := .byte) (by decide) (by decide)))
  replace V_b := V_b.other W5_ (Ne.symm ne_a_b)
  replace sz := Nat.le_trans sz (Keep.of_wr W5_).1
  have N5_ := Fr.snoc X5_ N4_ g_a
  replace K := K.wr W5_ (Or.inl (List.mem_of_getElem? (i := 0) rfl))
  show Runs p.tables e below _ (T5_.setTop (mkF m 51 #[.val (.ref a), .val (.ref d), .val (.int (0 : Int32)), .val (.int (6 : Int32)), .val .null, .val (.ref b)] []))
  refine Runs.st (fun t' k' => XS.aloadN X5_.here hx rfl (hb hby d_jdk_42_method_149_51) rfl rfl k') ?_
  refine Runs.st (fun t' k' => XS.aload X5_.here hx rfl (hb hby d_jdk_42_method_149_52) rfl rfl k') ?_
  obtain ⟨T6_, h6_, X6_, e6_, W6_, st6_⟩ := putF X5_ hx hZ hown (host := "") (Or.inl (hw _ (List.mem_of_getElem? (i := 29) rfl))) Via.refl e5_ F_v E_a (Or.inr ⟨(hw _ (List.mem_of_getElem? (i := 30) rfl)), rfl, hnm⟩) (hw _ (List.mem_of_getElem? (i := 3) rfl)) (ty := (.array .byte)) (by decide) rfl rfl (g := (mkF m 54 #[.val (.ref a), .val (.ref d), .val (.int (0 : Int32)), .val (.int (6 : Int32)), .val .null, .val (.ref b)] [(.ref b), (.ref a)])) rfl rfl (hb hby d_jdk_42_method_149_54)
  refine Runs.st (st6_) ?_
  replace F_v := F_v.same W6_
  replace E_a := Jvm.RoadKit.Exa.wr W6_ E_a
  replace V_b := V_b.other W6_ (Ne.symm ne_a_b)
  replace F_c := F_c.other W6_ (Or.inr (slot_ne (Or.inr (hw _ (List.mem_of_getElem? (i := 28) rfl))) (Or.inr (hw _ (List.mem_of_getElem? (i := 30) rfl))) (by decide) (t := .byte) (t' := (.array .byte)) (by decide) (by decide)))
  replace sz := Nat.le_trans sz (Keep.of_wr W6_).1
  have N6_ := Fr.snoc X6_ N5_ g_a
  replace K := K.wr W6_ (Or.inl (List.mem_of_getElem? (i := 0) rfl))
  show Runs p.tables e below _ (T6_.setTop (mkF m 57 #[.val (.ref a), .val (.ref d), .val (.int (0 : Int32)), .val (.int (6 : Int32)), .val .null, .val (.ref b)] []))
  refine Runs.ret X6_ hlk (v := none) (fun _ => rfl) (by decide) (by decide) ?_ (fun fs hr => X6_.returnOut hx hret (hb hby d_jdk_42_method_149_57) hr)
  try rw [e6_]
  exact ⟨rfl, N6_, K, E_a, F_c, b, k2, sz_b, F_v, V_b⟩
def Q_rmIC6 (Z : State) (a : Addr) (d : Addr) (c0 c1 c2 c3 c4 c5 : Int32) (k1 : ClassId) (zc : Int32) (h0 : Heap) (n0 : Nat) : Option Value → Heap → List Loc → Prop := (fun v h L => v = none ∧ Fr n0 L ∧ Keep h0 h [a] ∧ Exa Z h a "java/lang/String" ∧ Fld Z h a "java/lang/String" "coder" "B" (.int (0 : Int32)) ∧ ∃ b k2, h0.size ≤ b ∧ Fld Z h a "java/lang/String" "value" "[B" (.ref b) ∧ Arv Z h b k2 .byte (6 : Int32) [(.int (nar .byte (c0.toInt8.toInt32))), (.int (nar .byte (c1.toInt8.toInt32))), (.int (nar .byte (c2.toInt8.toInt32))), (.int (nar .byte (c3.toInt8.toInt32))), (.int (nar .byte (c4.toInt8.toInt32))), (.int (nar .byte (c5.toInt8.toInt32)))] (.int (0 : Int32)))
set_option maxRecDepth 65536 in
set_option maxHeartbeats 40000000 in
theorem rmIC6 (l : Launch) (Z : State) (a0 : Array Value) (hw : ∀ d ∈ tables_1, d.before a0 Z = true) (ws : List Jvm.Cond) (a : Addr) (d : Addr) (c0 c1 c2 c3 c4 c5 : Int32) (k1 : ClassId) (zc : Int32) (h0 : Heap) (n0 : Nat) (Z0 : n0 ≤ h0.size) (E_a : Exa Z h0 a "java/lang/String") (F_v : Fld Z h0 a "java/lang/String" "value" "[B" .null) (F_c : Fld Z h0 a "java/lang/String" "coder" "B" (.int (0 : Int32))) (g_a : n0 ≤ a) (V_d : Arv Z h0 d k1 .char (6 : Int32) [(.int c0), (.int c1), (.int c2), (.int c3), (.int c4), (.int c5)] (.int (0 : Int32))) (Sc : Sta Z h0 "java/lang/String" "COMPACT_STRINGS" "Z" (.int zc)) (hzc : ¬ zc = 0) (u0 : ¬ ((255 : Int32) < c0)) (u1 : ¬ ((255 : Int32) < c1)) (u2 : ¬ ((255 : Int32) < c2)) (u3 : ¬ ((255 : Int32) < c3)) (u4 : ¬ ((255 : Int32) < c4)) (u5 : ¬ ((255 : Int32) < c5)) :
    MetFree l (⟨"java/lang/String", "<init>", "([C)V"⟩ : MethodName) (head1 (Jvm.Cond.code (⟨"java/lang/String", "<init>", "([C)V"⟩ : MethodName) jdk_42_method_3_code 2 none :: ws) ({ frames := 3, cells := 1, slots := 6, locals := 52 } : Room)) (fun ar_ U => ar_ = #[(.ref a), (.ref d)] ∧ Z.Warmed39 U.vm ∧ U.heap = h0) (fun _ _ _ _ _ => True) (fun _ U o U' => Phi U (Q_rmIC6 Z a d c0 c1 c2 c3 c4 c5 k1 zc h0 n0) ({ frames := 3, cells := 1, slots := 6, locals := 52 } : Room).cells ({ frames := 3, cells := 1, slots := 6, locals := 52 } : Room).slots o U') := by
  refine MetFree.of_bodySF (plainFor_of_name pn_java_lang_String) hisR ?_
  intro p e s m args below meth c s₁ Bd hml0 hP hK
  obtain ⟨rfl, hZ, hh⟩ := hP
  have hx := Bd.exec
  have hby := Bd.bytes
  have hlk := Bd.notSynchronized
  have hml : c.maxLocals = 2 := hml0
  have hown : s.vm.findClass "java/lang/String" = some m.cls := findClass_of_methodNamed Bd.named
  have hown0 := hown
  have hnm := (name_of_methodNamed Bd.named Bd.method).1
  have hret := Bd.returns
  have X0 : Stand p l e ({ frames := 3, cells := 1, slots := 6, locals := 52 } : Room) s m #[(.ref a), (.ref d)] below meth c s₁ [] 0 0 := Stand.of_body Bd
  have e0 : s₁.heap = h0 := by rw [← hh, Bd.state]; rfl
  have N0 := Fr.nil n0
  have sz := Z0
  have K := Keep.refl h0 [a]
  show Runs p.tables e below (Phi s (Q_rmIC6 Z a d c0 c1 c2 c3 c4 c5 k1 zc h0 n0) ({ frames := 3, cells := 1, slots := 6, locals := 52 } : Room).cells ({ frames := 3, cells := 1, slots := 6, locals := 52 } : Room).slots) _
  refine Runs.st (fun t' k' => castTop (ef_jdk_42_method_3_RR m a d ) k') ?_
  show Runs p.tables e below _ (s₁.setTop (mkF m 0 #[.val (.ref a), .val (.ref d)] []))
  refine Runs.st (fun t' k' => XS.aloadN X0.here hx rfl (hb hby d_jdk_42_method_3_0) rfl rfl k') ?_
  refine Runs.st (fun t' k' => XS.aloadN X0.here hx rfl (hb hby d_jdk_42_method_3_1) rfl rfl k') ?_
  refine Runs.st (fun t' k' => XS.iconst X0.here hx rfl (hb hby d_jdk_42_method_3_2) k') ?_
  refine Runs.st (fun t' k' => XS.aloadN X0.here hx rfl (hb hby d_jdk_42_method_3_3) rfl rfl k') ?_
  obtain ⟨cl1_, Ar1_, -, S1_, M1_, -, -⟩ := id V_d
  refine Runs.st (X0.arraylength hx (by rw [e0]; exact Ar1_.1) (State.isArrayOf_alike hZ.alike Ar1_.2.1) (g := (mkF m 4 #[.val (.ref a), .val (.ref d)] [(.ref d), (.int (0 : Int32)), (.ref d), (.ref a)])) rfl rfl (hb hby d_jdk_42_method_3_4)) ?_
  rw [len_of S1_ M1_]
  show Runs p.tables e below _ (s₁.setTop (mkF m 5 #[.val (.ref a), .val (.ref d)] [(.int (6 : Int32)), (.int (0 : Int32)), (.ref d), (.ref a)]))
  refine Runs.st (fun t' k' => XS.aconstNull X0.here hx rfl (hb hby d_jdk_42_method_3_5) k') ?_
  obtain ⟨_, _, ⟨T2_, L2_, k2_, n2_⟩, -, X2_, ⟨Lc2_, hQ2_, l2_, y2_, z2_⟩, st2_⟩ := X0.specialBack hx (y := (⟨"java/lang/String", "<init>", "([CIILjava/lang/Void;)V"⟩ : MethodName)) rfl hown (mvT hZ (hw _ (List.mem_of_getElem? (i := 8) rfl))) (mvT hZ (hw _ (List.mem_of_getElem? (i := 9) rfl))) (mvT hZ (hw _ (List.mem_of_getElem? (i := 11) rfl))) (by decide) (backOf (W := 0) (rmID6 l Z a0 hw [] a d c0 c1 c2 c3 c4 c5 k1 zc h0 n0 sz E_a F_v F_c g_a V_d Sc hzc u0 u1 u2 u3 u4 u5) hZ (hw _ (List.mem_of_getElem? (i := 11) rfl)) (hw _ (List.mem_of_getElem? (i := 4) rfl)) (by decide) (by decide)) (g := (mkF m 6 #[.val (.ref a), .val (.ref d)] [.null, (.int (6 : Int32)), (.int (0 : Int32)), (.ref d), (.ref a)])) rfl (by rw [hml]; rfl) (Steps.refl _) (a := a) (argsL := [(.ref d), (.int (0 : Int32)), (.int (6 : Int32)), .null]) (rest := []) (lenOf pd__28_5bCIILjava_2flang_2fVoid_3b_29V rfl) rfl (by show 2 * 0 + _ ≤ _; exact Nat.le_of_eq rfl) (hb hby d_jdk_42_method_3_6) (fun _ _ => ⟨rfl, e0, (by decide : 0 + 1 ≤ _), (by decide : 0 + 6 ≤ _)⟩)
  dsimp only [Pt.U, Pt.locs, Pt.cells, Pt.slots] at X2_ l2_ y2_ z2_ st2_ hQ2_
  subst l2_ y2_ z2_
  obtain ⟨rfl, N2_q, K2_, E_a, F_c, b, k2, szb, F_v, V_b⟩ := hQ2_
  have N2_ := Fr.app N0 N2_q
  refine Runs.tr st2_ ?_
  replace X2_ := wider X2_ (c' := 1) (s' := 6) (by decide) (by decide)
  replace sz := Nat.le_trans sz K2_.1
  replace K := K.trans K2_ (allS (Or.inl (List.mem_of_getElem? (i := 0) rfl)) all0)
  show Runs p.tables e below _ (T2_.setTop (mkF m 9 #[.val (.ref a), .val (.ref d)] []))
  refine Runs.ret X2_ hlk (v := none) (fun _ => rfl) (by decide) (by decide) ?_ (fun fs hr => X2_.returnOut hx hret (hb hby d_jdk_42_method_3_9) hr)
  exact ⟨rfl, N2_, K, E_a, F_c, b, k2, szb, F_v, V_b⟩
def Q_rmBB (Z : State) (a : Addr) (b : Addr)  (h0 : Heap) (n0 : Nat) : Option Value → Heap → List Loc → Prop := (fun v h L => v = none ∧ Fr n0 L ∧ Keep h0 h [a] ∧ Exa Z h a "java/lang/String" ∧ Fld Z h a "java/lang/String" "coder" "B" (.int (0 : Int32)) ∧ Fld Z h a "java/lang/String" "value" "[B" (.ref b))
theorem ef_jdk_42_method_151_RRI (m : MethodId) (x0 : Addr) (x1 : Addr) (x2 : Int32)  : entryFrame m #[(.ref x0), (.ref x1), (.int x2)] 3 = mkF m 0 #[.val (.ref x0), .val (.ref x1), .val (.int x2)] [] := by first | (simp [entryFrame, mkF, argsToLocals, Value.category]; done) | rfl
theorem d_jdk_42_method_151_0 : decode jdk_42_method_151_code 0 = .ok (.aload_n 0, 1) := by decide +kernel
theorem d_jdk_42_method_151_1 : decode jdk_42_method_151_code 1 = .ok (.invokespecial 1, 3) := by decide +kernel
theorem d_jdk_42_method_151_4 : decode jdk_42_method_151_code 4 = .ok (.aload_n 0, 1) := by decide +kernel
theorem d_jdk_42_method_151_5 : decode jdk_42_method_151_code 5 = .ok (.aload_n 1, 1) := by decide +kernel
theorem d_jdk_42_method_151_6 : decode jdk_42_method_151_code 6 = .ok (.putfield 9, 3) := by decide +kernel
theorem d_jdk_42_method_151_9 : decode jdk_42_method_151_code 9 = .ok (.aload_n 0, 1) := by decide +kernel
theorem d_jdk_42_method_151_10 : decode jdk_42_method_151_code 10 = .ok (.iload_n 2, 1) := by decide +kernel
theorem d_jdk_42_method_151_11 : decode jdk_42_method_151_code 11 = .ok (.putfield 15, 3) := by decide +kernel
theorem d_jdk_42_method_151_14 : decode jdk_42_method_151_code 14 = .ok (.return_, 1) := by decide +kernel
set_option maxRecDepth 65536 in
set_option maxHeartbeats 40000000 in
theorem rmBB (l : Launch) (Z : State) (a0 : Array Value) (hw : ∀ d ∈ tables_1, d.before a0 Z = true) (ws : List Jvm.Cond) (a : Addr) (b : Addr)  (h0 : Heap) (n0 : Nat) (Z0 : n0 ≤ h0.size) (E_a : Exa Z h0 a "java/lang/String") (F_v : Fld Z h0 a "java/lang/String" "value" "[B" .null) (F_c : Fld Z h0 a "java/lang/String" "coder" "B" (.int (0 : Int32))) (g_a : n0 ≤ a) :
    MetFree l (⟨"java/lang/String", "<init>", "([BB)V"⟩ : MethodName) (head1 (Jvm.Cond.code (⟨"java/lang/String", "<init>", "([BB)V"⟩ : MethodName) jdk_42_method_151_code 3 none :: ws) ({ frames := 1, cells := 0, slots := 0, locals := 12 } : Room)) (fun ar_ U => ar_ = #[(.ref a), (.ref b), (.int (0 : Int32))] ∧ Z.Warmed39 U.vm ∧ U.heap = h0) (fun _ _ _ _ _ => True) (fun _ U o U' => Phi U (Q_rmBB Z a b h0 n0) ({ frames := 1, cells := 0, slots := 0, locals := 12 } : Room).cells ({ frames := 1, cells := 0, slots := 0, locals := 12 } : Room).slots o U') := by
  refine MetFree.of_bodySF (plainFor_of_name pn_java_lang_String) hisR ?_
  intro p e s m args below meth c s₁ Bd hml0 hP hK
  obtain ⟨rfl, hZ, hh⟩ := hP
  have hx := Bd.exec
  have hby := Bd.bytes
  have hlk := Bd.notSynchronized
  have hml : c.maxLocals = 3 := hml0
  have hown : s.vm.findClass "java/lang/String" = some m.cls := findClass_of_methodNamed Bd.named
  have hown0 := hown
  have hnm := (name_of_methodNamed Bd.named Bd.method).1
  have hret := Bd.returns
  have X0 : Stand p l e ({ frames := 1, cells := 0, slots := 0, locals := 12 } : Room) s m #[(.ref a), (.ref b), (.int (0 : Int32))] below meth c s₁ [] 0 0 := Stand.of_body Bd
  have e0 : s₁.heap = h0 := by rw [← hh, Bd.state]; rfl
  have N0 := Fr.nil n0
  have sz := Z0
  have K := Keep.refl h0 [a]
  show Runs p.tables e below (Phi s (Q_rmBB Z a b h0 n0) ({ frames := 1, cells := 0, slots := 0, locals := 12 } : Room).cells ({ frames := 1, cells := 0, slots := 0, locals := 12 } : Room).slots) _
  refine Runs.st (fun t' k' => castTop (ef_jdk_42_method_151_RRI m a b (0 : Int32) ) k') ?_
  show Runs p.tables e below _ (s₁.setTop (mkF m 0 #[.val (.ref a), .val (.ref b), .val (.int (0 : Int32))] []))
  refine Runs.st (fun t' k' => XS.aloadN X0.here hx rfl (hb hby d_jdk_42_method_151_0) rfl rfl k') ?_
  obtain ⟨T1_, X1_, e1_, st1_⟩ := initO X0 hx hZ hown (hw _ (List.mem_of_getElem? (i := 12) rfl)) (hw _ (List.mem_of_getElem? (i := 13) rfl)) (hw _ (List.mem_of_getElem? (i := 14) rfl)) e0 (g := (mkF m 1 #[.val (.ref a), .val (.ref b), .val (.int (0 : Int32))] [(.ref a)])) rfl (by rw [hml]; rfl) rfl (hb hby d_jdk_42_method_151_1) (by decide) (W := 0) (by show 2 * 0 + _ ≤ _; exact Nat.le_of_eq rfl) (by decide)
  refine Runs.st (st1_) ?_
  show Runs p.tables e below _ (T1_.setTop (mkF m 4 #[.val (.ref a), .val (.ref b), .val (.int (0 : Int32))] []))
  refine Runs.st (fun t' k' => XS.aloadN X1_.here hx rfl (hb hby d_jdk_42_method_151_4) rfl rfl k') ?_
  refine Runs.st (fun t' k' => XS.aloadN X1_.here hx rfl (hb hby d_jdk_42_method_151_5) rfl rfl k') ?_
  obtain ⟨T2_, h2_, X2_, e2_, W2_, st2_⟩ := putF X1_ hx hZ hown (host := "") (Or.inl (hw _ (List.mem_of_getElem? (i := 29) rfl))) Via.refl e1_ F_v E_a (Or.inr ⟨(hw _ (List.mem_of_getElem? (i := 30) rfl)), rfl, hnm⟩) (hw _ (List.mem_of_getElem? (i := 3) rfl)) (ty := (.array .byte)) (by decide) rfl rfl (g := (mkF m 6 #[.val (.ref a), .val (.ref b), .val (.int (0 : Int32))] [(.ref b), (.ref a)])) rfl rfl (hb hby d_jdk_42_method_151_6)
  refine Runs.st (st2_) ?_
  replace F_v := F_v.same W2_
  replace E_a := Jvm.RoadKit.Exa.wr W2_ E_a
  replace F_c := F_c.other W2_ (Or.inr (slot_ne (Or.inr (hw _ (List.mem_of_getElem? (i := 28) rfl))) (Or.inr (hw _ (List.mem_of_getElem? (i := 30) rfl))) (by decide) (t := .byte) (t' := (.array .byte)) (by decide) (by decide)))
  replace sz := Nat.le_trans sz (Keep.of_wr W2_).1
  have N2_ := Fr.snoc X2_ N0 g_a
  replace K := K.wr W2_ (Or.inl (List.mem_of_getElem? (i := 0) rfl))
  show Runs p.tables e below _ (T2_.setTop (mkF m 9 #[.val (.ref a), .val (.ref b), .val (.int (0 : Int32))] []))
  refine Runs.st (fun t' k' => XS.aloadN X2_.here hx rfl (hb hby d_jdk_42_method_151_9) rfl rfl k') ?_
  refine Runs.st (fun t' k' => XS.iloadN X2_.here hx rfl (hb hby d_jdk_42_method_151_10) rfl k') ?_
  obtain ⟨T3_, h3_, X3_, e3_, W3_, st3_⟩ := putFN X2_ hx hZ hown (hw _ (List.mem_of_getElem? (i := 27) rfl)) Via.refl e2_ F_c E_a (Or.inr ⟨(hw _ (List.mem_of_getElem? (i := 28) rfl)), rfl, hnm⟩) (hw _ (List.mem_of_getElem? (i := 3) rfl)) (ty := .byte) (v' := .int (0 : Int32)) (by decide) rfl rfl (g := (mkF m 11 #[.val (.ref a), .val (.ref b), .val (.int (0 : Int32))] [(.int (0 : Int32)), (.ref a)])) rfl rfl (hb hby d_jdk_42_method_151_11)
  refine Runs.st (st3_) ?_
  replace F_c := F_c.same W3_
  replace E_a := Jvm.RoadKit.Exa.wr W3_ E_a
  replace F_v := F_v.other W3_ (Or.inr (slot_ne (Or.inr (hw _ (List.mem_of_getElem? (i := 30) rfl))) (Or.inr (hw _ (List.mem_of_getElem? (i := 28) rfl))) (by decide) (t := (.array .byte)) (t' := .byte) (by decide) (by decide)))
  replace sz := Nat.le_trans sz (Keep.of_wr W3_).1
  have N3_ := Fr.snoc X3_ N2_ g_a
  replace K := K.wr W3_ (Or.inl (List.mem_of_getElem? (i := 0) rfl))
  show Runs p.tables e below _ (T3_.setTop (mkF m 14 #[.val (.ref a), .val (.ref b), .val (.int (0 : Int32))] []))
  refine Runs.ret X3_ hlk (v := none) (fun _ => rfl) (by decide) (by decide) ?_ (fun fs hr => X3_.returnOut hx hret (hb hby d_jdk_42_method_151_14) hr)
  try rw [e3_]
  exact ⟨rfl, N3_, K, E_a, F_c, F_v⟩
def Q_rmCan (Z : State) (c0 : Int32)  (h0 : Heap) (n0 : Nat) : Option Value → Heap → List Loc → Prop := (fun v h L => v = some (.int (1 : Int32)) ∧ Fr n0 L ∧ h = h0)
theorem ef_jdk_43_method_3_I (m : MethodId) (x0 : Int32)  : entryFrame m #[(.int x0)] 1 = mkF m 0 #[.val (.int x0)] [] := by first | (simp [entryFrame, mkF, argsToLocals, Value.category]; done) | rfl
theorem d_jdk_43_method_3_0 : decode jdk_43_method_3_code 0 = .ok (.iload_n 0, 1) := by decide +kernel
theorem d_jdk_43_method_3_1 : decode jdk_43_method_3_code 1 = .ok (.sipush 255, 3) := by decide +kernel
theorem d_jdk_43_method_3_4 : decode jdk_43_method_3_code 4 = .ok (.if_icmp .gt 7, 3) := by decide +kernel
theorem d_jdk_43_method_3_7 : decode jdk_43_method_3_code 7 = .ok (.iconst 1, 1) := by decide +kernel
theorem d_jdk_43_method_3_8 : decode jdk_43_method_3_code 8 = .ok (.goto 4, 3) := by decide +kernel
theorem d_jdk_43_method_3_12 : decode jdk_43_method_3_code 12 = .ok (.ireturn, 1) := by decide +kernel
set_option maxRecDepth 65536 in
set_option maxHeartbeats 40000000 in
theorem rmCan (l : Launch) (Z : State) (a0 : Array Value) (hw : ∀ d ∈ tables_1, d.before a0 Z = true) (ws : List Jvm.Cond) (c0 : Int32)  (h0 : Heap) (n0 : Nat) (Z0 : n0 ≤ h0.size) (u0 : ¬ ((255 : Int32) < c0)) :
    MetFree l (⟨"java/lang/StringLatin1", "canEncode", "(C)Z"⟩ : MethodName) (head1 (Jvm.Cond.code (⟨"java/lang/StringLatin1", "canEncode", "(C)Z"⟩ : MethodName) jdk_43_method_3_code 1 (some .boolean) :: ws) ({ frames := 0, cells := 0, slots := 0, locals := 0 } : Room)) (fun ar_ U => ar_ = #[(.int c0)] ∧ Z.Warmed39 U.vm ∧ U.heap = h0) (fun _ _ _ _ _ => True) (fun _ U o U' => Phi U (Q_rmCan Z c0 h0 n0) ({ frames := 0, cells := 0, slots := 0, locals := 0 } : Room).cells ({ frames := 0, cells := 0, slots := 0, locals := 0 } : Room).slots o U') := by
  refine MetFree.of_bodySF (plainFor_of_name pn_java_lang_StringLatin1) hisR ?_
  intro p e s m args below meth c s₁ Bd hml0 hP hK
  obtain ⟨rfl, hZ, hh⟩ := hP
  have hx := Bd.exec
  have hby := Bd.bytes
  have hlk := Bd.notSynchronized
  have hml : c.maxLocals = 1 := hml0
  have hown : s.vm.findClass "java/lang/StringLatin1" = some m.cls := findClass_of_methodNamed Bd.named
  have hown0 := hown
  have hnm := (name_of_methodNamed Bd.named Bd.method).1
  have hret := Bd.returns
  have X0 : Stand p l e ({ frames := 0, cells := 0, slots := 0, locals := 0 } : Room) s m #[(.int c0)] below meth c s₁ [] 0 0 := Stand.of_body Bd
  have e0 : s₁.heap = h0 := by rw [← hh, Bd.state]; rfl
  have N0 := Fr.nil n0
  have sz := Z0
  have K := Keep.refl h0 []
  show Runs p.tables e below (Phi s (Q_rmCan Z c0 h0 n0) ({ frames := 0, cells := 0, slots := 0, locals := 0 } : Room).cells ({ frames := 0, cells := 0, slots := 0, locals := 0 } : Room).slots) _
  refine Runs.st (fun t' k' => castTop (ef_jdk_43_method_3_I m c0 ) k') ?_
  show Runs p.tables e below _ (s₁.setTop (mkF m 0 #[.val (.int c0)] []))
  refine Runs.st (fun t' k' => XS.iloadN X0.here hx rfl (hb hby d_jdk_43_method_3_0) rfl k') ?_
  refine Runs.st (fun t' k' => XS.sipush X0.here hx rfl (hb hby d_jdk_43_method_3_1) k') ?_
  refine Runs.st (fun t' k' => XS.icmpNo X0.here hx rfl (hb hby d_jdk_43_method_3_4) rfl (flt u0).2.2.1 k') ?_
  show Runs p.tables e below _ (s₁.setTop (mkF m 7 #[.val (.int c0)] []))
  refine Runs.st (fun t' k' => XS.iconst X0.here hx rfl (hb hby d_jdk_43_method_3_7) k') ?_
  refine Runs.st (fun t' k' => XS.goto X0.here hx rfl (pc0 := 8) (pc' := 12) rfl (hb hby d_jdk_43_method_3_8) (by decide) (by decide) k') ?_
  refine Runs.ret X0 hlk (v := (some (.int (1 : Int32)))) (fun h => by rw [hret] at h; cases h) (by decide) (by decide) ?_ (fun fs hr => retN X0 hx (t := .boolean) hret (by simp) (hb hby d_jdk_43_method_3_12) hr)
  try rw [e0]
  exact ⟨rfl, N0, rfl⟩
def Q_rmTB (Z : State) (c0 : Int32)  (h0 : Heap) (n0 : Nat) : Option Value → Heap → List Loc → Prop := (fun v h L => ∃ b k, v = some (.ref b) ∧ Fr n0 L ∧ Keep h0 h [] ∧ h0.size ≤ b ∧ Arv Z h b k .byte (1 : Int32) [(.int (nar .byte (c0.toInt8.toInt32)))] (.int (0 : Int32)))
theorem ef_jdk_43_method_46_I (m : MethodId) (x0 : Int32)  : entryFrame m #[(.int x0)] 1 = mkF m 0 #[.val (.int x0)] [] := by first | (simp [entryFrame, mkF, argsToLocals, Value.category]; done) | rfl
theorem d_jdk_43_method_46_0 : decode jdk_43_method_46_code 0 = .ok (.iconst 1, 1) := by decide +kernel
theorem d_jdk_43_method_46_1 : decode jdk_43_method_46_code 1 = .ok (.newarray .byte, 2) := by decide +kernel
theorem d_jdk_43_method_46_3 : decode jdk_43_method_46_code 3 = .ok (.dup, 1) := by decide +kernel
theorem d_jdk_43_method_46_4 : decode jdk_43_method_46_code 4 = .ok (.iconst 0, 1) := by decide +kernel
theorem d_jdk_43_method_46_5 : decode jdk_43_method_46_code 5 = .ok (.iload_n 0, 1) := by decide +kernel
theorem d_jdk_43_method_46_6 : decode jdk_43_method_46_code 6 = .ok (.i2b, 1) := by decide +kernel
theorem d_jdk_43_method_46_7 : decode jdk_43_method_46_code 7 = .ok (.bastore, 1) := by decide +kernel
theorem d_jdk_43_method_46_8 : decode jdk_43_method_46_code 8 = .ok (.areturn, 1) := by decide +kernel
set_option maxRecDepth 65536 in
set_option maxHeartbeats 40000000 in
theorem rmTB (l : Launch) (Z : State) (a0 : Array Value) (hw : ∀ d ∈ tables_1, d.before a0 Z = true) (ws : List Jvm.Cond) (c0 : Int32)  (h0 : Heap) (n0 : Nat) (Z0 : n0 ≤ h0.size)  :
    MetFree l (⟨"java/lang/StringLatin1", "toBytes", "(C)[B"⟩ : MethodName) (head1 (Jvm.Cond.code (⟨"java/lang/StringLatin1", "toBytes", "(C)[B"⟩ : MethodName) jdk_43_method_46_code 1 (some (.array .byte)) :: ws) ({ frames := 0, cells := 1, slots := 1, locals := 0 } : Room)) (fun ar_ U => ar_ = #[(.int c0)] ∧ Z.Warmed39 U.vm ∧ U.heap = h0) (fun _ _ _ _ _ => True) (fun _ U o U' => Phi U (Q_rmTB Z c0 h0 n0) ({ frames := 0, cells := 1, slots := 1, locals := 0 } : Room).cells ({ frames := 0, cells := 1, slots := 1, locals := 0 } : Room).slots o U') := by
  refine MetFree.of_bodySF (plainFor_of_name pn_java_lang_StringLatin1) hisR ?_
  intro p e s m args below meth c s₁ Bd hml0 hP hK
  obtain ⟨rfl, hZ, hh⟩ := hP
  have hx := Bd.exec
  have hby := Bd.bytes
  have hlk := Bd.notSynchronized
  have hml : c.maxLocals = 1 := hml0
  have hown : s.vm.findClass "java/lang/StringLatin1" = some m.cls := findClass_of_methodNamed Bd.named
  have hown0 := hown
  have hnm := (name_of_methodNamed Bd.named Bd.method).1
  have hret := Bd.returns
  have X0 : Stand p l e ({ frames := 0, cells := 1, slots := 1, locals := 0 } : Room) s m #[(.int c0)] below meth c s₁ [] 0 0 := Stand.of_body Bd
  have e0 : s₁.heap = h0 := by rw [← hh, Bd.state]; rfl
  have N0 := Fr.nil n0
  have sz := Z0
  have K := Keep.refl h0 []
  show Runs p.tables e below (Phi s (Q_rmTB Z c0 h0 n0) ({ frames := 0, cells := 1, slots := 1, locals := 0 } : Room).cells ({ frames := 0, cells := 1, slots := 1, locals := 0 } : Room).slots) _
  refine Runs.st (fun t' k' => castTop (ef_jdk_43_method_46_I m c0 ) k') ?_
  show Runs p.tables e below _ (s₁.setTop (mkF m 0 #[.val (.int c0)] []))
  refine Runs.st (fun t' k' => XS.iconst X0.here hx rfl (hb hby d_jdk_43_method_46_0) k') ?_
  obtain ⟨T1_, h1_, k1_, X1_, e1_, E1_, A1_, st1_⟩ := newP X0 hx hZ (hw _ (List.mem_of_getElem? (i := 20) rfl)) e0 (g := (mkF m 1 #[.val (.int c0)] [(.int (1 : Int32))])) rfl (hb hby d_jdk_43_method_46_1) rfl (by decide) (cap := 1) (by decide) (by decide) (by decide) (by decide)
  refine Runs.st (st1_) ?_
  obtain ⟨b, g1_⟩ : ∃ z, z = h0.size := ⟨_, rfl⟩
  rw [← g1_] at A1_
  try rw [← g1_]
  have g_b : n0 ≤ b := Nat.le_trans sz (Nat.le_of_eq g1_.symm)
  have sz_b : h0.size ≤ b := Nat.le_trans K.1 (Nat.le_of_eq g1_.symm)
  replace sz := Nat.le_trans sz E1_.1
  replace K := K.ext E1_
  have V_b : Arv Z h1_ b k1_ .byte (1 : Int32) [(.int (0 : Int32))] (.int (0 : Int32)) := (Arv.new A1_ (by decide)).pad (pad_rep [] (.int (0 : Int32)) 1)
  show Runs p.tables e below _ (T1_.setTop (mkF m 3 #[.val (.int c0)] [(.ref b)]))
  refine Runs.st (fun t' k' => XS.dup X1_.here hx rfl (hb hby d_jdk_43_method_46_3) rfl rfl k') ?_
  refine Runs.st (fun t' k' => XS.iconst X1_.here hx rfl (hb hby d_jdk_43_method_46_4) k') ?_
  refine Runs.st (fun t' k' => XS.iloadN X1_.here hx rfl (hb hby d_jdk_43_method_46_5) rfl k') ?_
  refine Runs.st (fun t' k' => XS.i2b X1_.here hx rfl (hb hby d_jdk_43_method_46_6) rfl k') ?_
  obtain ⟨cl2_, Ar2_, q2_, S2_, M2_, Ha2_, G2_⟩ := V_b
  have hin2_ : ¬ ((0 : Int32) < 0 ∨ cl2_.slots.size ≤ ((0 : Int32)).toNatClampNeg) := inb_of S2_ ⟨by decide, by decide⟩
  obtain ⟨T2_, h2_, X2_, e2_, W2_, st2_⟩ := stB X1_ hx hZ e1_ Ar2_ (j := (0 : Int32)) hin2_ (g := (mkF m 7 #[.val (.int c0)] [(.int (c0.toInt8.toInt32)), (.int (0 : Int32)), (.ref b), (.ref b)])) rfl rfl (hb hby d_jdk_43_method_46_7)
  refine Runs.st (st2_) ?_
  have V_b := Arv.set Ar2_ q2_ S2_ M2_ Ha2_ G2_ (fits_nar_byte _) W2_ 0 rfl (Nat.le_of_ble_eq_true rfl)
  replace sz := Nat.le_trans sz (Keep.of_wr W2_).1
  have N2_ := Fr.snoc X2_ N0 g_b
  replace K := K.wr W2_ (Or.inr sz_b)
  show Runs p.tables e below _ (T2_.setTop (mkF m 8 #[.val (.int c0)] [(.ref b)]))
  refine Runs.ret X2_ hlk (v := (some (.ref b))) (fun h => by rw [hret] at h; cases h) (by decide) (by decide) ?_ (fun fs hr => retOut X2_ hx hret rfl (Or.inr (Or.inr (Or.inr (Or.inr ⟨rfl, rfl, rfl⟩)))) (hb hby d_jdk_43_method_46_8) hr)
  try rw [e2_]
  exact ⟨b, _, rfl, N2_, K, sz_b, V_b⟩
def Q_rmVO (Z : State) (c0 : Int32) (zc : Int32) (h0 : Heap) (n0 : Nat) : Option Value → Heap → List Loc → Prop := (fun v h L => ∃ a b k, v = some (.ref a) ∧ Fr n0 L ∧ Keep h0 h [] ∧ h0.size ≤ a ∧ h0.size ≤ b ∧ a ≠ b ∧ Exa Z h a "java/lang/String" ∧ Fld Z h a "java/lang/String" "coder" "B" (.int (0 : Int32)) ∧ Fld Z h a "java/lang/String" "value" "[B" (.ref b) ∧ Arv Z h b k .byte (1 : Int32) [(.int (nar .byte (c0.toInt8.toInt32)))] (.int (0 : Int32)))
theorem ef_jdk_42_method_139_I (m : MethodId) (x0 : Int32)  : entryFrame m #[(.int x0)] 1 = mkF m 0 #[.val (.int x0)] [] := by first | (simp [entryFrame, mkF, argsToLocals, Value.category]; done) | rfl
theorem d_jdk_42_method_139_0 : decode jdk_42_method_139_code 0 = .ok (.getstatic 38, 3) := by decide +kernel
theorem d_jdk_42_method_139_3 : decode jdk_42_method_139_code 3 = .ok (.ifCond .eq 23, 3) := by decide +kernel
theorem d_jdk_42_method_139_6 : decode jdk_42_method_139_code 6 = .ok (.iload_n 0, 1) := by decide +kernel
theorem pd__28C_29Z : parseMethodDescriptor "(C)Z" = some ⟨[.char], some .boolean⟩ := by decide +kernel
theorem d_jdk_42_method_139_7 : decode jdk_42_method_139_code 7 = .ok (.invokestatic 1015, 3) := by decide +kernel
theorem d_jdk_42_method_139_10 : decode jdk_42_method_139_code 10 = .ok (.ifCond .eq 16, 3) := by decide +kernel
theorem d_jdk_42_method_139_13 : decode jdk_42_method_139_code 13 = .ok (.new 10, 3) := by decide +kernel
theorem d_jdk_42_method_139_16 : decode jdk_42_method_139_code 16 = .ok (.dup, 1) := by decide +kernel
theorem d_jdk_42_method_139_17 : decode jdk_42_method_139_code 17 = .ok (.iload_n 0, 1) := by decide +kernel
theorem pd__28C_29_5bB : parseMethodDescriptor "(C)[B" = some ⟨[.char], some (.array .byte)⟩ := by decide +kernel
theorem d_jdk_42_method_139_18 : decode jdk_42_method_139_code 18 = .ok (.invokestatic 1018, 3) := by decide +kernel
theorem d_jdk_42_method_139_21 : decode jdk_42_method_139_code 21 = .ok (.iconst 0, 1) := by decide +kernel
theorem pd__28_5bBB_29V : parseMethodDescriptor "([BB)V" = some ⟨[(.array .byte), .byte], none⟩ := by decide +kernel
theorem d_jdk_42_method_139_22 : decode jdk_42_method_139_code 22 = .ok (.invokespecial 209, 3) := by decide +kernel
theorem d_jdk_42_method_139_25 : decode jdk_42_method_139_code 25 = .ok (.areturn, 1) := by decide +kernel
set_option maxRecDepth 65536 in
set_option maxHeartbeats 40000000 in
theorem rmVO (l : Launch) (Z : State) (a0 : Array Value) (hw : ∀ d ∈ tables_1, d.before a0 Z = true) (ws : List Jvm.Cond) (c0 : Int32) (zc : Int32) (h0 : Heap) (n0 : Nat) (Z0 : n0 ≤ h0.size) (Sc : Sta Z h0 "java/lang/String" "COMPACT_STRINGS" "Z" (.int zc)) (hzc : ¬ zc = 0) (u0 : ¬ ((255 : Int32) < c0)) :
    MetFree l (⟨"java/lang/String", "valueOf", "(C)Ljava/lang/String;"⟩ : MethodName) (head1 (Jvm.Cond.code (⟨"java/lang/String", "valueOf", "(C)Ljava/lang/String;"⟩ : MethodName) jdk_42_method_139_code 1 (some (.object "java/lang/String")) :: ws) ({ frames := 2, cells := 2, slots := 5, locals := 29 } : Room)) (fun ar_ U => ar_ = #[(.int c0)] ∧ Z.Warmed39 U.vm ∧ U.heap = h0) (fun _ _ _ _ _ => True) (fun _ U o U' => Phi U (Q_rmVO Z c0 zc h0 n0) ({ frames := 2, cells := 2, slots := 5, locals := 29 } : Room).cells ({ frames := 2, cells := 2, slots := 5, locals := 29 } : Room).slots o U') := by
  refine MetFree.of_bodySF (plainFor_of_name pn_java_lang_String) hisR ?_
  intro p e s m args below meth c s₁ Bd hml0 hP hK
  obtain ⟨rfl, hZ, hh⟩ := hP
  have hx := Bd.exec
  have hby := Bd.bytes
  have hlk := Bd.notSynchronized
  have hml : c.maxLocals = 1 := hml0
  have hown : s.vm.findClass "java/lang/String" = some m.cls := findClass_of_methodNamed Bd.named
  have hown0 := hown
  have hnm := (name_of_methodNamed Bd.named Bd.method).1
  have hret := Bd.returns
  have X0 : Stand p l e ({ frames := 2, cells := 2, slots := 5, locals := 29 } : Room) s m #[(.int c0)] below meth c s₁ [] 0 0 := Stand.of_body Bd
  have e0 : s₁.heap = h0 := by rw [← hh, Bd.state]; rfl
  have N0 := Fr.nil n0
  have sz := Z0
  have K := Keep.refl h0 []
  show Runs p.tables e below (Phi s (Q_rmVO Z c0 zc h0 n0) ({ frames := 2, cells := 2, slots := 5, locals := 29 } : Room).cells ({ frames := 2, cells := 2, slots := 5, locals := 29 } : Room).slots) _
  refine Runs.st (fun t' k' => castTop (ef_jdk_42_method_139_I m c0 ) k') ?_
  show Runs p.tables e below _ (s₁.setTop (mkF m 0 #[.val (.int c0)] []))
  obtain ⟨T1_, X1_, e1_, st1_⟩ := getS2 X0 hx hZ hown (host := "") (Or.inl (hw _ (List.mem_of_getElem? (i := 15) rfl))) Via.refl e0 Sc (g := (mkF m 0 #[.val (.int c0)] [])) rfl (hb hby d_jdk_42_method_139_0)
  refine Runs.st (st1_) ?_
  show Runs p.tables e below _ (T1_.setTop (mkF m 3 #[.val (.int c0)] [(.int zc)]))
  refine Runs.st (fun t' k' => XS.ifNo X1_.here hx rfl (hb hby d_jdk_42_method_139_3) rfl ((if0 _ _).trans (feq hzc).1) k') ?_
  show Runs p.tables e below _ (T1_.setTop (mkF m 6 #[.val (.int c0)] []))
  refine Runs.st (fun t' k' => XS.iloadN X1_.here hx rfl (hb hby d_jdk_42_method_139_6) rfl k') ?_
  obtain ⟨_, _, ⟨T2_, L2_, k2_, n2_⟩, -, X2_, ⟨Lc2_, hQ2_, l2_, y2_, z2_⟩, st2_⟩ := Jvm.LawKit.callS X1_ hx (y := (⟨"java/lang/StringLatin1", "canEncode", "(C)Z"⟩ : MethodName)) hown (mvT hZ (hw _ (List.mem_of_getElem? (i := 92) rfl))) (mvT hZ (hw _ (List.mem_of_getElem? (i := 93) rfl))) (mvT hZ (hw _ (List.mem_of_getElem? (i := 53) rfl))) (mvT hZ (hw _ (List.mem_of_getElem? (i := 94) rfl))) (by decide) (backOf (W := 0) (rmCan l Z a0 hw [] c0 h0 n0 sz u0) hZ (hw _ (List.mem_of_getElem? (i := 94) rfl)) (hw _ (List.mem_of_getElem? (i := 53) rfl)) (by decide) (by decide)) (g := (mkF m 7 #[.val (.int c0)] [(.int c0)])) rfl (by rw [hml]; rfl) (argsL := [(.int c0)]) (rest := []) (lenOf pd__28C_29Z rfl) rfl (by show 2 * 0 + _ ≤ _; exact Nat.le_of_eq rfl) (hb hby d_jdk_42_method_139_7) (fun _ _ => ⟨rfl, e1_, (by decide : 0 + 0 ≤ _), (by decide : 0 + 0 ≤ _)⟩)
  dsimp only [Pt.U, Pt.locs, Pt.cells, Pt.slots] at X2_ l2_ y2_ z2_ st2_ hQ2_
  subst l2_ y2_ z2_
  obtain ⟨rfl, N2_q, e2_⟩ := hQ2_
  have N2_ := Fr.app N0 N2_q
  refine Runs.st (st2_) ?_
  replace X2_ := wider X2_ (c' := 0) (s' := 0) (by decide) (by decide)
  show Runs p.tables e below _ (T2_.setTop (mkF m 10 #[.val (.int c0)] [(.int (1 : Int32))]))
  refine Runs.st (fun t' k' => XS.ifNo X2_.here hx rfl (hb hby d_jdk_42_method_139_10) rfl ((if0 _ _).trans (feq (by decide)).1) k') ?_
  show Runs p.tables e below _ (T2_.setTop (mkF m 13 #[.val (.int c0)] []))
  obtain ⟨T3_, h3_, X3_, e3_, E3_, A3_, D3_, -, st3_⟩ := newO X2_ hx hZ hown (hw _ (List.mem_of_getElem? (i := 77) rfl)) (hw _ (List.mem_of_getElem? (i := 3) rfl)) (hw _ (List.mem_of_getElem? (i := 4) rfl)) e2_ (g := (mkF m 13 #[.val (.int c0)] [])) rfl (hb hby d_jdk_42_method_139_13) (by decide) (by decide)
  refine Runs.st (st3_) ?_
  obtain ⟨a, g3_⟩ : ∃ z, z = h0.size := ⟨_, rfl⟩
  rw [← g3_] at A3_ D3_
  try rw [← g3_]
  have g_a : n0 ≤ a := Nat.le_trans sz (Nat.le_of_eq g3_.symm)
  have sz_a : h0.size ≤ a := Nat.le_trans K.1 (Nat.le_of_eq g3_.symm)
  replace sz := Nat.le_trans sz E3_.1
  replace K := K.ext E3_
  have E_a := A3_
  have F_a_coder : Fld Z h3_ a "java/lang/String" "coder" "B" (.int (0 : Int32)) := D3_ (Or.inr (hw _ (List.mem_of_getElem? (i := 28) rfl))) (ty := .byte) (by decide)
  have F_a_value : Fld Z h3_ a "java/lang/String" "value" "[B" .null := D3_ (Or.inr (hw _ (List.mem_of_getElem? (i := 30) rfl))) (ty := (.array .byte)) (by decide)
  show Runs p.tables e below _ (T3_.setTop (mkF m 16 #[.val (.int c0)] [(.ref a)]))
  refine Runs.st (fun t' k' => XS.dup X3_.here hx rfl (hb hby d_jdk_42_method_139_16) rfl rfl k') ?_
  refine Runs.st (fun t' k' => XS.iloadN X3_.here hx rfl (hb hby d_jdk_42_method_139_17) rfl k') ?_
  have kz4_ := K.1
  have gz4_ := sz
  have lt4__a := E_a.lt
  obtain ⟨_, _, ⟨T4_, L4_, k4_, n4_⟩, -, X4_, ⟨Lc4_, hQ4_, l4_, y4_, z4_⟩, st4_⟩ := Jvm.LawKit.callS X3_ hx (y := (⟨"java/lang/StringLatin1", "toBytes", "(C)[B"⟩ : MethodName)) hown (mvT hZ (hw _ (List.mem_of_getElem? (i := 95) rfl))) (mvT hZ (hw _ (List.mem_of_getElem? (i := 96) rfl))) (mvT hZ (hw _ (List.mem_of_getElem? (i := 53) rfl))) (mvT hZ (hw _ (List.mem_of_getElem? (i := 97) rfl))) (by decide) (backOf (W := 2) (rmTB l Z a0 hw [] c0 h3_ n0 sz) hZ (hw _ (List.mem_of_getElem? (i := 97) rfl)) (hw _ (List.mem_of_getElem? (i := 53) rfl)) (by decide) (by decide)) (g := (mkF m 18 #[.val (.int c0)] [(.int c0), (.ref a), (.ref a)])) rfl (by rw [hml]; rfl) (argsL := [(.int c0)]) (rest := [(.ref a), (.ref a)]) (lenOf pd__28C_29_5bB rfl) rfl (by show 2 * 0 + _ ≤ _; exact Nat.le_of_eq rfl) (hb hby d_jdk_42_method_139_18) (fun _ _ => ⟨rfl, e3_, (by decide : 1 + 1 ≤ _), (by decide : 4 + 1 ≤ _)⟩)
  dsimp only [Pt.U, Pt.locs, Pt.cells, Pt.slots] at X4_ l4_ y4_ z4_ st4_ hQ4_
  subst l4_ y4_ z4_
  obtain ⟨b, kb, rfl, N4_q, K4_, szb, V_b⟩ := hQ4_
  have N4_ := Fr.app N2_ N4_q
  refine Runs.st (st4_) ?_
  replace X4_ := wider X4_ (c' := 2) (s' := 5) (by decide) (by decide)
  replace E_a := E_a.keep K4_
  replace F_a_coder := F_a_coder.keep K4_ nin0
  replace F_a_value := F_a_value.keep K4_ nin0
  replace sz := Nat.le_trans sz K4_.1
  replace K := K.trans K4_ all0
  have sz_b : h0.size ≤ b := Nat.le_trans kz4_ szb
  have g_b : n0 ≤ b := Nat.le_trans gz4_ szb
  have ne_a_b : a ≠ b := Nat.ne_of_lt (Nat.lt_of_lt_of_le lt4__a szb)
  show Runs p.tables e below _ (T4_.setTop (mkF m 21 #[.val (.int c0)] [(.ref b), (.ref a), (.ref a)]))
  refine Runs.st (fun t' k' => XS.iconst X4_.here hx rfl (hb hby d_jdk_42_method_139_21) k') ?_
  obtain ⟨_, _, ⟨T5_, L5_, k5_, n5_⟩, -, X5_, ⟨Lc5_, hQ5_, l5_, y5_, z5_⟩, st5_⟩ := X4_.specialBack hx (y := (⟨"java/lang/String", "<init>", "([BB)V"⟩ : MethodName)) rfl hown (mvT hZ (hw _ (List.mem_of_getElem? (i := 98) rfl))) (mvT hZ (hw _ (List.mem_of_getElem? (i := 99) rfl))) (mvT hZ (hw _ (List.mem_of_getElem? (i := 100) rfl))) (by decide) (backOf (W := 1) (rmBB l Z a0 hw [] a b T4_.heap n0 sz E_a F_a_value F_a_coder g_a) hZ (hw _ (List.mem_of_getElem? (i := 100) rfl)) (hw _ (List.mem_of_getElem? (i := 4) rfl)) (by decide) (by decide)) (g := (mkF m 22 #[.val (.int c0)] [(.int (0 : Int32)), (.ref b), (.ref a), (.ref a)])) rfl (by rw [hml]; rfl) (Steps.refl _) (a := a) (argsL := [(.ref b), (.int (0 : Int32))]) (rest := [(.ref a)]) (lenOf pd__28_5bBB_29V rfl) rfl (by show 2 * 0 + _ ≤ _; exact Nat.le_of_eq rfl) (hb hby d_jdk_42_method_139_22) (fun _ _ => ⟨rfl, rfl, (by decide : 2 + 0 ≤ _), (by decide : 5 + 0 ≤ _)⟩)
  dsimp only [Pt.U, Pt.locs, Pt.cells, Pt.slots] at X5_ l5_ y5_ z5_ st5_ hQ5_
  subst l5_ y5_ z5_
  obtain ⟨rfl, N5_q, K5_, E_a, F_a_coder, F_a_value⟩ := hQ5_
  have N5_ := Fr.app N4_ N5_q
  refine Runs.tr st5_ ?_
  replace X5_ := wider X5_ (c' := 2) (s' := 5) (by decide) (by decide)
  replace V_b := V_b.keep K5_ (ninS (Ne.symm ne_a_b) nin0)
  replace sz := Nat.le_trans sz K5_.1
  replace K := K.trans K5_ (allS (Or.inr sz_a) all0)
  show Runs p.tables e below _ (T5_.setTop (mkF m 25 #[.val (.int c0)] [(.ref a)]))
  refine Runs.ret X5_ hlk (v := (some (.ref a))) (fun h => by rw [hret] at h; cases h) (by decide) (by decide) ?_ (fun fs hr => retOut X5_ hx hret rfl (Or.inr (Or.inr (Or.inr (Or.inr ⟨rfl, rfl, rfl⟩)))) (hb hby d_jdk_42_method_139_25) hr)
  exact ⟨a, b, kb, rfl, N5_, K, sz_a, sz_b, ne_a_b, E_a, F_a_coder, F_a_value, V_b⟩
def Q_rmLN (Z : State) (b : Addr) (d : Addr) (k1 k2 : ClassId) (n : Int32) (vs : List Value) (h0 : Heap) (n0 : Nat) : Option Value → Heap → List Loc → Prop := (fun v h L => v = some (.int (0 : Int32)) ∧ Fr n0 L ∧ h = h0)
theorem ef_jdk_43_method_13_RR (m : MethodId) (x0 : Addr) (x1 : Addr)  : entryFrame m #[(.ref x0), (.ref x1)] 3 = mkF m 0 #[.val (.ref x0), .val (.ref x1), .unset] [] := by first | (simp [entryFrame, mkF, argsToLocals, Value.category]; done) | rfl
theorem d_jdk_43_method_13_0 : decode jdk_43_method_13_code 0 = .ok (.aload_n 0, 1) := by decide +kernel
theorem d_jdk_43_method_13_1 : decode jdk_43_method_13_code 1 = .ok (.arraylength, 1) := by decide +kernel
theorem d_jdk_43_method_13_2 : decode jdk_43_method_13_code 2 = .ok (.aload_n 1, 1) := by decide +kernel
theorem d_jdk_43_method_13_3 : decode jdk_43_method_13_code 3 = .ok (.arraylength, 1) := by decide +kernel
theorem d_jdk_43_method_13_4 : decode jdk_43_method_13_code 4 = .ok (.if_icmp .ne 30, 3) := by decide +kernel
theorem d_jdk_43_method_13_34 : decode jdk_43_method_13_code 34 = .ok (.iconst 0, 1) := by decide +kernel
theorem d_jdk_43_method_13_35 : decode jdk_43_method_13_code 35 = .ok (.ireturn, 1) := by decide +kernel
set_option maxRecDepth 65536 in
set_option maxHeartbeats 40000000 in
theorem rmLN (l : Launch) (Z : State) (a0 : Array Value) (hw : ∀ d ∈ tables_1, d.before a0 Z = true) (ws : List Jvm.Cond) (b : Addr) (d : Addr) (k1 k2 : ClassId) (n : Int32) (vs : List Value) (h0 : Heap) (n0 : Nat) (Z0 : n0 ≤ h0.size) (V1 : Arv Z h0 b k1 .byte n vs (.int (0 : Int32))) (V2 : Arv Z h0 d k2 .byte (5 : Int32) [(.int (82 : Int32)), (.int (101 : Int32)), (.int (100 : Int32)), (.int (105 : Int32)), (.int (115 : Int32))] (.int (0 : Int32))) (hn : ¬ n = (5 : Int32)) :
    MetFree l (⟨"java/lang/StringLatin1", "equals", "([B[B)Z"⟩ : MethodName) (head1 (Jvm.Cond.code (⟨"java/lang/StringLatin1", "equals", "([B[B)Z"⟩ : MethodName) jdk_43_method_13_code 3 (some .boolean) :: ws) ({ frames := 0, cells := 0, slots := 0, locals := 0 } : Room)) (fun ar_ U => ar_ = #[(.ref b), (.ref d)] ∧ Z.Warmed39 U.vm ∧ U.heap = h0) (fun _ _ _ _ _ => True) (fun _ U o U' => Phi U (Q_rmLN Z b d k1 k2 n vs h0 n0) ({ frames := 0, cells := 0, slots := 0, locals := 0 } : Room).cells ({ frames := 0, cells := 0, slots := 0, locals := 0 } : Room).slots o U') := by
  refine MetFree.of_bodySF (plainFor_of_name pn_java_lang_StringLatin1) hisR ?_
  intro p e s m args below meth c s₁ Bd hml0 hP hK
  obtain ⟨rfl, hZ, hh⟩ := hP
  have hx := Bd.exec
  have hby := Bd.bytes
  have hlk := Bd.notSynchronized
  have hml : c.maxLocals = 3 := hml0
  have hown : s.vm.findClass "java/lang/StringLatin1" = some m.cls := findClass_of_methodNamed Bd.named
  have hown0 := hown
  have hnm := (name_of_methodNamed Bd.named Bd.method).1
  have hret := Bd.returns
  have X0 : Stand p l e ({ frames := 0, cells := 0, slots := 0, locals := 0 } : Room) s m #[(.ref b), (.ref d)] below meth c s₁ [] 0 0 := Stand.of_body Bd
  have e0 : s₁.heap = h0 := by rw [← hh, Bd.state]; rfl
  have N0 := Fr.nil n0
  have sz := Z0
  have K := Keep.refl h0 []
  show Runs p.tables e below (Phi s (Q_rmLN Z b d k1 k2 n vs h0 n0) ({ frames := 0, cells := 0, slots := 0, locals := 0 } : Room).cells ({ frames := 0, cells := 0, slots := 0, locals := 0 } : Room).slots) _
  refine Runs.st (fun t' k' => castTop (ef_jdk_43_method_13_RR m b d ) k') ?_
  show Runs p.tables e below _ (s₁.setTop (mkF m 0 #[.val (.ref b), .val (.ref d), .unset] []))
  refine Runs.st (fun t' k' => XS.aloadN X0.here hx rfl (hb hby d_jdk_43_method_13_0) rfl rfl k') ?_
  obtain ⟨cl1_, Ar1_, -, S1_, M1_, -, -⟩ := id V1
  refine Runs.st (X0.arraylength hx (by rw [e0]; exact Ar1_.1) (State.isArrayOf_alike hZ.alike Ar1_.2.1) (g := (mkF m 1 #[.val (.ref b), .val (.ref d), .unset] [(.ref b)])) rfl rfl (hb hby d_jdk_43_method_13_1)) ?_
  rw [len_of S1_ M1_]
  show Runs p.tables e below _ (s₁.setTop (mkF m 2 #[.val (.ref b), .val (.ref d), .unset] [(.int n)]))
  refine Runs.st (fun t' k' => XS.aloadN X0.here hx rfl (hb hby d_jdk_43_method_13_2) rfl rfl k') ?_
  obtain ⟨cl2_, Ar2_, -, S2_, M2_, -, -⟩ := id V2
  refine Runs.st (X0.arraylength hx (by rw [e0]; exact Ar2_.1) (State.isArrayOf_alike hZ.alike Ar2_.2.1) (g := (mkF m 3 #[.val (.ref b), .val (.ref d), .unset] [(.ref d), (.int n)])) rfl rfl (hb hby d_jdk_43_method_13_3)) ?_
  rw [len_of S2_ M2_]
  show Runs p.tables e below _ (s₁.setTop (mkF m 4 #[.val (.ref b), .val (.ref d), .unset] [(.int (5 : Int32)), (.int n)]))
  refine Runs.st (fun t' k' => XS.icmpYes X0.here hx rfl (pc0 := 4) (pc' := 34) rfl (hb hby d_jdk_43_method_13_4) rfl (feq hn).2 (by decide) (by decide) k') ?_
  show Runs p.tables e below _ (s₁.setTop (mkF m 34 #[.val (.ref b), .val (.ref d), .unset] []))
  refine Runs.st (fun t' k' => XS.iconst X0.here hx rfl (hb hby d_jdk_43_method_13_34) k') ?_
  refine Runs.ret X0 hlk (v := (some (.int (0 : Int32)))) (fun h => by rw [hret] at h; cases h) (by decide) (by decide) ?_ (fun fs hr => retN X0 hx (t := .boolean) hret (by simp) (hb hby d_jdk_43_method_13_35) hr)
  try rw [e0]
  exact ⟨rfl, N0, rfl⟩
def Q_rmSN (Z : State) (a : Addr) (oo : Addr) (zc : Int32) (b d : Addr) (k1 kv0 : ClassId) (n : Int32) (vs : List Value) (h0 : Heap) (n0 : Nat) : Option Value → Heap → List Loc → Prop := (fun v h L => v = some (.int (0 : Int32)) ∧ Fr n0 L ∧ h = h0)
theorem ef_jdk_42_method_66_RR (m : MethodId) (x0 : Addr) (x1 : Addr)  : entryFrame m #[(.ref x0), (.ref x1)] 3 = mkF m 0 #[.val (.ref x0), .val (.ref x1), .unset] [] := by first | (simp [entryFrame, mkF, argsToLocals, Value.category]; done) | rfl
theorem d_jdk_42_method_66_0 : decode jdk_42_method_66_code 0 = .ok (.aload_n 0, 1) := by decide +kernel
theorem d_jdk_42_method_66_1 : decode jdk_42_method_66_code 1 = .ok (.aload_n 1, 1) := by decide +kernel
theorem d_jdk_42_method_66_2 : decode jdk_42_method_66_code 2 = .ok (.if_acmp .ne 5, 3) := by decide +kernel
theorem d_jdk_42_method_66_7 : decode jdk_42_method_66_code 7 = .ok (.aload_n 1, 1) := by decide +kernel
theorem d_jdk_42_method_66_8 : decode jdk_42_method_66_code 8 = .ok (.instanceof 10, 3) := by decide +kernel
theorem d_jdk_42_method_66_11 : decode jdk_42_method_66_code 11 = .ok (.ifCond .eq 43, 3) := by decide +kernel
theorem d_jdk_42_method_66_14 : decode jdk_42_method_66_code 14 = .ok (.aload_n 1, 1) := by decide +kernel
theorem d_jdk_42_method_66_15 : decode jdk_42_method_66_code 15 = .ok (.checkcast 10, 3) := by decide +kernel
theorem d_jdk_42_method_66_18 : decode jdk_42_method_66_code 18 = .ok (.astore_n 2, 1) := by decide +kernel
theorem d_jdk_42_method_66_19 : decode jdk_42_method_66_code 19 = .ok (.getstatic 38, 3) := by decide +kernel
theorem d_jdk_42_method_66_22 : decode jdk_42_method_66_code 22 = .ok (.ifCond .eq 14, 3) := by decide +kernel
theorem d_jdk_42_method_66_25 : decode jdk_42_method_66_code 25 = .ok (.aload_n 0, 1) := by decide +kernel
theorem d_jdk_42_method_66_26 : decode jdk_42_method_66_code 26 = .ok (.getfield 15, 3) := by decide +kernel
theorem d_jdk_42_method_66_29 : decode jdk_42_method_66_code 29 = .ok (.aload_n 2, 1) := by decide +kernel
theorem d_jdk_42_method_66_30 : decode jdk_42_method_66_code 30 = .ok (.getfield 15, 3) := by decide +kernel
theorem d_jdk_42_method_66_33 : decode jdk_42_method_66_code 33 = .ok (.if_icmp .ne 21, 3) := by decide +kernel
theorem d_jdk_42_method_66_36 : decode jdk_42_method_66_code 36 = .ok (.aload_n 0, 1) := by decide +kernel
theorem d_jdk_42_method_66_37 : decode jdk_42_method_66_code 37 = .ok (.getfield 9, 3) := by decide +kernel
theorem d_jdk_42_method_66_40 : decode jdk_42_method_66_code 40 = .ok (.aload_n 2, 1) := by decide +kernel
theorem d_jdk_42_method_66_41 : decode jdk_42_method_66_code 41 = .ok (.getfield 9, 3) := by decide +kernel
theorem pd__28_5bB_5bB_29Z : parseMethodDescriptor "([B[B)Z" = some ⟨[(.array .byte), (.array .byte)], some .boolean⟩ := by decide +kernel
theorem d_jdk_42_method_66_44 : decode jdk_42_method_66_code 44 = .ok (.invokestatic 541, 3) := by decide +kernel
theorem d_jdk_42_method_66_47 : decode jdk_42_method_66_code 47 = .ok (.ifCond .eq 7, 3) := by decide +kernel
theorem d_jdk_42_method_66_54 : decode jdk_42_method_66_code 54 = .ok (.iconst 0, 1) := by decide +kernel
theorem d_jdk_42_method_66_55 : decode jdk_42_method_66_code 55 = .ok (.ireturn, 1) := by decide +kernel
set_option maxRecDepth 65536 in
set_option maxHeartbeats 40000000 in
theorem rmSN (l : Launch) (Z : State) (a0 : Array Value) (hw : ∀ d ∈ tables_1, d.before a0 Z = true) (ws : List Jvm.Cond) (a : Addr) (oo : Addr) (zc : Int32) (b d : Addr) (k1 kv0 : ClassId) (n : Int32) (vs : List Value) (h0 : Heap) (n0 : Nat) (Z0 : n0 ≤ h0.size) (hne : a ≠ oo) (Sc : Sta Z h0 "java/lang/String" "COMPACT_STRINGS" "Z" (.int zc)) (hzc : ¬ zc = 0) (Ea : Exa Z h0 a "java/lang/String") (Ca : Fld Z h0 a "java/lang/String" "coder" "B" (.int (0 : Int32))) (Va : Fld Z h0 a "java/lang/String" "value" "[B" (.ref b)) (Eo : Exa Z h0 oo "java/lang/String") (Co : Fld Z h0 oo "java/lang/String" "coder" "B" (.int (0 : Int32))) (Vo : Fld Z h0 oo "java/lang/String" "value" "[B" (.ref d)) (V1 : Arv Z h0 b k1 .byte n vs (.int (0 : Int32))) (V0 : Arv Z h0 d kv0 .byte (5 : Int32) [(.int (82 : Int32)), (.int (101 : Int32)), (.int (100 : Int32)), (.int (105 : Int32)), (.int (115 : Int32))] (.int (0 : Int32))) (hn : ¬ n = (5 : Int32)) :
    MetFree l (⟨"java/lang/String", "equals", "(Ljava/lang/Object;)Z"⟩ : MethodName) (head1 (Jvm.Cond.code (⟨"java/lang/String", "equals", "(Ljava/lang/Object;)Z"⟩ : MethodName) jdk_42_method_66_code 3 (some .boolean) :: ws) ({ frames := 1, cells := 0, slots := 0, locals := 14 } : Room)) (fun ar_ U => ar_ = #[(.ref a), (.ref oo)] ∧ Z.Warmed39 U.vm ∧ U.heap = h0) (fun _ _ _ _ _ => True) (fun _ U o U' => Phi U (Q_rmSN Z a oo zc b d k1 kv0 n vs h0 n0) ({ frames := 1, cells := 0, slots := 0, locals := 14 } : Room).cells ({ frames := 1, cells := 0, slots := 0, locals := 14 } : Room).slots o U') := by
  refine MetFree.of_bodySF (plainFor_of_name pn_java_lang_String) hisR ?_
  intro p e s m args below meth c s₁ Bd hml0 hP hK
  obtain ⟨rfl, hZ, hh⟩ := hP
  have hx := Bd.exec
  have hby := Bd.bytes
  have hlk := Bd.notSynchronized
  have hml : c.maxLocals = 3 := hml0
  have hown : s.vm.findClass "java/lang/String" = some m.cls := findClass_of_methodNamed Bd.named
  have hown0 := hown
  have hnm := (name_of_methodNamed Bd.named Bd.method).1
  have hret := Bd.returns
  have X0 : Stand p l e ({ frames := 1, cells := 0, slots := 0, locals := 14 } : Room) s m #[(.ref a), (.ref oo)] below meth c s₁ [] 0 0 := Stand.of_body Bd
  have e0 : s₁.heap = h0 := by rw [← hh, Bd.state]; rfl
  have N0 := Fr.nil n0
  have sz := Z0
  have K := Keep.refl h0 []
  show Runs p.tables e below (Phi s (Q_rmSN Z a oo zc b d k1 kv0 n vs h0 n0) ({ frames := 1, cells := 0, slots := 0, locals := 14 } : Room).cells ({ frames := 1, cells := 0, slots := 0, locals := 14 } : Room).slots) _
  refine Runs.st (fun t' k' => castTop (ef_jdk_42_method_66_RR m a oo ) k') ?_
  show Runs p.tables e below _ (s₁.setTop (mkF m 0 #[.val (.ref a), .val (.ref oo), .unset] []))
  refine Runs.st (fun t' k' => XS.aloadN X0.here hx rfl (hb hby d_jdk_42_method_66_0) rfl rfl k') ?_
  refine Runs.st (fun t' k' => XS.aloadN X0.here hx rfl (hb hby d_jdk_42_method_66_1) rfl rfl k') ?_
  refine Runs.st (fun t' k' => Jvm.RoadKit.acmp (g := (mkF m 2 #[.val (.ref a), .val (.ref oo), .unset] [(.ref oo), (.ref a)])) X0 hx rfl rfl rfl (pc0 := 2) (pc' := 7) (same := false) rfl (hb hby d_jdk_42_method_66_2) rfl (decide_eq_false fun q => hne (Value.ref.inj q)) (by decide) (by decide) k') ?_
  show Runs p.tables e below _ (s₁.setTop (mkF m 7 #[.val (.ref a), .val (.ref oo), .unset] []))
  refine Runs.st (fun t' k' => XS.aloadN X0.here hx rfl (hb hby d_jdk_42_method_66_7) rfl rfl k') ?_
  obtain ⟨T1_, X1_, e1_, st1_⟩ := instY X0 hx hZ hown (hw _ (List.mem_of_getElem? (i := 77) rfl)) e0 (Ins.self Eo) (g := (mkF m 8 #[.val (.ref a), .val (.ref oo), .unset] [(.ref oo)])) rfl rfl (hb hby d_jdk_42_method_66_8)
  refine Runs.st (st1_) ?_
  show Runs p.tables e below _ (T1_.setTop (mkF m 11 #[.val (.ref a), .val (.ref oo), .unset] [(.int (1 : Int32))]))
  refine Runs.st (fun t' k' => XS.ifNo X1_.here hx rfl (hb hby d_jdk_42_method_66_11) rfl ((if0 _ _).trans (feq (by decide)).1) k') ?_
  show Runs p.tables e below _ (T1_.setTop (mkF m 14 #[.val (.ref a), .val (.ref oo), .unset] []))
  refine Runs.st (fun t' k' => XS.aloadN X1_.here hx rfl (hb hby d_jdk_42_method_66_14) rfl rfl k') ?_
  obtain ⟨T2_, X2_, e2_, st2_⟩ := castY X1_ hx hZ hown (hw _ (List.mem_of_getElem? (i := 77) rfl)) e1_ (Ins.self Eo) (g := (mkF m 15 #[.val (.ref a), .val (.ref oo), .unset] [(.ref oo)])) rfl rfl (hb hby d_jdk_42_method_66_15)
  refine Runs.st (st2_) ?_
  show Runs p.tables e below _ (T2_.setTop (mkF m 18 #[.val (.ref a), .val (.ref oo), .unset] [(.ref oo)]))
  refine Runs.st (fun t' k' => XS.astoreN X2_.here hx rfl (hb hby d_jdk_42_method_66_18) rfl rfl (l' := #[.val (.ref a), .val (.ref oo), .val (.ref oo)]) rfl k') ?_
  obtain ⟨T3_, X3_, e3_, st3_⟩ := getS2 X2_ hx hZ hown (host := "") (Or.inl (hw _ (List.mem_of_getElem? (i := 15) rfl))) Via.refl e2_ Sc (g := (mkF m 19 #[.val (.ref a), .val (.ref oo), .val (.ref oo)] [])) rfl (hb hby d_jdk_42_method_66_19)
  refine Runs.st (st3_) ?_
  show Runs p.tables e below _ (T3_.setTop (mkF m 22 #[.val (.ref a), .val (.ref oo), .val (.ref oo)] [(.int zc)]))
  refine Runs.st (fun t' k' => XS.ifNo X3_.here hx rfl (hb hby d_jdk_42_method_66_22) rfl ((if0 _ _).trans (feq hzc).1) k') ?_
  show Runs p.tables e below _ (T3_.setTop (mkF m 25 #[.val (.ref a), .val (.ref oo), .val (.ref oo)] []))
  refine Runs.st (fun t' k' => XS.aloadN X3_.here hx rfl (hb hby d_jdk_42_method_66_25) rfl rfl k') ?_
  obtain ⟨T4_, X4_, e4_, st4_⟩ := getF X3_ hx hZ hown (host := "") (Or.inl (hw _ (List.mem_of_getElem? (i := 27) rfl))) Via.refl e3_ Ca (g := (mkF m 26 #[.val (.ref a), .val (.ref oo), .val (.ref oo)] [(.ref a)])) rfl rfl (hb hby d_jdk_42_method_66_26)
  refine Runs.st (st4_) ?_
  show Runs p.tables e below _ (T4_.setTop (mkF m 29 #[.val (.ref a), .val (.ref oo), .val (.ref oo)] [(.int (0 : Int32))]))
  refine Runs.st (fun t' k' => XS.aloadN X4_.here hx rfl (hb hby d_jdk_42_method_66_29) rfl rfl k') ?_
  obtain ⟨T5_, X5_, e5_, st5_⟩ := getF X4_ hx hZ hown (host := "") (Or.inl (hw _ (List.mem_of_getElem? (i := 27) rfl))) Via.refl e4_ Co (g := (mkF m 30 #[.val (.ref a), .val (.ref oo), .val (.ref oo)] [(.ref oo), (.int (0 : Int32))])) rfl rfl (hb hby d_jdk_42_method_66_30)
  refine Runs.st (st5_) ?_
  show Runs p.tables e below _ (T5_.setTop (mkF m 33 #[.val (.ref a), .val (.ref oo), .val (.ref oo)] [(.int (0 : Int32)), (.int (0 : Int32))]))
  refine Runs.st (fun t' k' => XS.icmpNo X5_.here hx rfl (hb hby d_jdk_42_method_66_33) rfl (teq rfl).2 k') ?_
  show Runs p.tables e below _ (T5_.setTop (mkF m 36 #[.val (.ref a), .val (.ref oo), .val (.ref oo)] []))
  refine Runs.st (fun t' k' => XS.aloadN X5_.here hx rfl (hb hby d_jdk_42_method_66_36) rfl rfl k') ?_
  obtain ⟨T6_, X6_, e6_, st6_⟩ := getF X5_ hx hZ hown (host := "") (Or.inl (hw _ (List.mem_of_getElem? (i := 29) rfl))) Via.refl e5_ Va (g := (mkF m 37 #[.val (.ref a), .val (.ref oo), .val (.ref oo)] [(.ref a)])) rfl rfl (hb hby d_jdk_42_method_66_37)
  refine Runs.st (st6_) ?_
  show Runs p.tables e below _ (T6_.setTop (mkF m 40 #[.val (.ref a), .val (.ref oo), .val (.ref oo)] [(.ref b)]))
  refine Runs.st (fun t' k' => XS.aloadN X6_.here hx rfl (hb hby d_jdk_42_method_66_40) rfl rfl k') ?_
  obtain ⟨T7_, X7_, e7_, st7_⟩ := getF X6_ hx hZ hown (host := "") (Or.inl (hw _ (List.mem_of_getElem? (i := 29) rfl))) Via.refl e6_ Vo (g := (mkF m 41 #[.val (.ref a), .val (.ref oo), .val (.ref oo)] [(.ref oo), (.ref b)])) rfl rfl (hb hby d_jdk_42_method_66_41)
  refine Runs.st (st7_) ?_
  show Runs p.tables e below _ (T7_.setTop (mkF m 44 #[.val (.ref a), .val (.ref oo), .val (.ref oo)] [(.ref d), (.ref b)]))
  obtain ⟨_, _, ⟨T8_, L8_, k8_, n8_⟩, -, X8_, ⟨Lc8_, hQ8_, l8_, y8_, z8_⟩, st8_⟩ := Jvm.LawKit.callS X7_ hx (y := (⟨"java/lang/StringLatin1", "equals", "([B[B)Z"⟩ : MethodName)) hown (mvT hZ (hw _ (List.mem_of_getElem? (i := 78) rfl))) (mvT hZ (hw _ (List.mem_of_getElem? (i := 79) rfl))) (mvT hZ (hw _ (List.mem_of_getElem? (i := 53) rfl))) (mvT hZ (hw _ (List.mem_of_getElem? (i := 80) rfl))) (by decide) (backOf (W := 0) (rmLN l Z a0 hw [] b d k1 kv0 n vs h0 n0 sz V1 V0 hn) hZ (hw _ (List.mem_of_getElem? (i := 80) rfl)) (hw _ (List.mem_of_getElem? (i := 53) rfl)) (by decide) (by decide)) (g := (mkF m 44 #[.val (.ref a), .val (.ref oo), .val (.ref oo)] [(.ref d), (.ref b)])) rfl (by rw [hml]; rfl) (argsL := [(.ref b), (.ref d)]) (rest := []) (lenOf pd__28_5bB_5bB_29Z rfl) rfl (by show 2 * 0 + _ ≤ _; exact Nat.le_of_eq rfl) (hb hby d_jdk_42_method_66_44) (fun _ _ => ⟨rfl, e7_, (by decide : 0 + 0 ≤ _), (by decide : 0 + 0 ≤ _)⟩)
  dsimp only [Pt.U, Pt.locs, Pt.cells, Pt.slots] at X8_ l8_ y8_ z8_ st8_ hQ8_
  subst l8_ y8_ z8_
  obtain ⟨rfl, N8_q, e8_⟩ := hQ8_
  have N8_ := Fr.app N0 N8_q
  refine Runs.st (st8_) ?_
  replace X8_ := wider X8_ (c' := 0) (s' := 0) (by decide) (by decide)
  show Runs p.tables e below _ (T8_.setTop (mkF m 47 #[.val (.ref a), .val (.ref oo), .val (.ref oo)] [(.int (0 : Int32))]))
  refine Runs.st (fun t' k' => XS.ifYes X8_.here hx rfl (pc0 := 47) (pc' := 54) rfl (hb hby d_jdk_42_method_66_47) rfl ((if0 _ _).trans (teq rfl).1) (by decide) (by decide) k') ?_
  show Runs p.tables e below _ (T8_.setTop (mkF m 54 #[.val (.ref a), .val (.ref oo), .val (.ref oo)] []))
  refine Runs.st (fun t' k' => XS.iconst X8_.here hx rfl (hb hby d_jdk_42_method_66_54) k') ?_
  refine Runs.ret X8_ hlk (v := (some (.int (0 : Int32)))) (fun h => by rw [hret] at h; cases h) (by decide) (by decide) ?_ (fun fs hr => retN X8_ hx (t := .boolean) hret (by simp) (hb hby d_jdk_42_method_66_55) hr)
  try rw [e8_]
  exact ⟨rfl, N8_, rfl⟩
def Q_rmL0 (Z : State) (b : Addr) (d : Addr) (k1 k2 : ClassId) (x0 x1 x2 x3 x4 : Int32) (h0 : Heap) (n0 : Nat) : Option Value → Heap → List Loc → Prop := (fun v h L => v = some (.int (0 : Int32)) ∧ Fr n0 L ∧ h = h0)
theorem d_jdk_43_method_13_7 : decode jdk_43_method_13_code 7 = .ok (.iconst 0, 1) := by decide +kernel
theorem d_jdk_43_method_13_8 : decode jdk_43_method_13_code 8 = .ok (.istore_n 2, 1) := by decide +kernel
theorem d_jdk_43_method_13_9 : decode jdk_43_method_13_code 9 = .ok (.iload_n 2, 1) := by decide +kernel
theorem d_jdk_43_method_13_10 : decode jdk_43_method_13_code 10 = .ok (.aload_n 0, 1) := by decide +kernel
theorem d_jdk_43_method_13_11 : decode jdk_43_method_13_code 11 = .ok (.arraylength, 1) := by decide +kernel
theorem d_jdk_43_method_13_12 : decode jdk_43_method_13_code 12 = .ok (.if_icmp .ge 20, 3) := by decide +kernel
theorem d_jdk_43_method_13_15 : decode jdk_43_method_13_code 15 = .ok (.aload_n 0, 1) := by decide +kernel
theorem d_jdk_43_method_13_16 : decode jdk_43_method_13_code 16 = .ok (.iload_n 2, 1) := by decide +kernel
theorem d_jdk_43_method_13_17 : decode jdk_43_method_13_code 17 = .ok (.baload, 1) := by decide +kernel
theorem d_jdk_43_method_13_18 : decode jdk_43_method_13_code 18 = .ok (.aload_n 1, 1) := by decide +kernel
theorem d_jdk_43_method_13_19 : decode jdk_43_method_13_code 19 = .ok (.iload_n 2, 1) := by decide +kernel
theorem d_jdk_43_method_13_20 : decode jdk_43_method_13_code 20 = .ok (.baload, 1) := by decide +kernel
theorem d_jdk_43_method_13_21 : decode jdk_43_method_13_code 21 = .ok (.if_icmp .eq 5, 3) := by decide +kernel
theorem d_jdk_43_method_13_24 : decode jdk_43_method_13_code 24 = .ok (.iconst 0, 1) := by decide +kernel
theorem d_jdk_43_method_13_25 : decode jdk_43_method_13_code 25 = .ok (.ireturn, 1) := by decide +kernel
set_option maxRecDepth 65536 in
set_option maxHeartbeats 40000000 in
theorem rmL0 (l : Launch) (Z : State) (a0 : Array Value) (hw : ∀ d ∈ tables_1, d.before a0 Z = true) (ws : List Jvm.Cond) (b : Addr) (d : Addr) (k1 k2 : ClassId) (x0 x1 x2 x3 x4 : Int32) (h0 : Heap) (n0 : Nat) (Z0 : n0 ≤ h0.size) (V1 : Arv Z h0 b k1 .byte (5 : Int32) [(.int x0), (.int x1), (.int x2), (.int x3), (.int x4)] (.int (0 : Int32))) (V2 : Arv Z h0 d k2 .byte (5 : Int32) [(.int (82 : Int32)), (.int (101 : Int32)), (.int (100 : Int32)), (.int (105 : Int32)), (.int (115 : Int32))] (.int (0 : Int32)))  (y0 : ¬ x0 = (82 : Int32)) :
    MetFree l (⟨"java/lang/StringLatin1", "equals", "([B[B)Z"⟩ : MethodName) (head1 (Jvm.Cond.code (⟨"java/lang/StringLatin1", "equals", "([B[B)Z"⟩ : MethodName) jdk_43_method_13_code 3 (some .boolean) :: ws) ({ frames := 0, cells := 0, slots := 0, locals := 0 } : Room)) (fun ar_ U => ar_ = #[(.ref b), (.ref d)] ∧ Z.Warmed39 U.vm ∧ U.heap = h0) (fun _ _ _ _ _ => True) (fun _ U o U' => Phi U (Q_rmL0 Z b d k1 k2 x0 x1 x2 x3 x4 h0 n0) ({ frames := 0, cells := 0, slots := 0, locals := 0 } : Room).cells ({ frames := 0, cells := 0, slots := 0, locals := 0 } : Room).slots o U') := by
  refine MetFree.of_bodySF (plainFor_of_name pn_java_lang_StringLatin1) hisR ?_
  intro p e s m args below meth c s₁ Bd hml0 hP hK
  obtain ⟨rfl, hZ, hh⟩ := hP
  have hx := Bd.exec
  have hby := Bd.bytes
  have hlk := Bd.notSynchronized
  have hml : c.maxLocals = 3 := hml0
  have hown : s.vm.findClass "java/lang/StringLatin1" = some m.cls := findClass_of_methodNamed Bd.named
  have hown0 := hown
  have hnm := (name_of_methodNamed Bd.named Bd.method).1
  have hret := Bd.returns
  have X0 : Stand p l e ({ frames := 0, cells := 0, slots := 0, locals := 0 } : Room) s m #[(.ref b), (.ref d)] below meth c s₁ [] 0 0 := Stand.of_body Bd
  have e0 : s₁.heap = h0 := by rw [← hh, Bd.state]; rfl
  have N0 := Fr.nil n0
  have sz := Z0
  have K := Keep.refl h0 []
  show Runs p.tables e below (Phi s (Q_rmL0 Z b d k1 k2 x0 x1 x2 x3 x4 h0 n0) ({ frames := 0, cells := 0, slots := 0, locals := 0 } : Room).cells ({ frames := 0, cells := 0, slots := 0, locals := 0 } : Room).slots) _
  refine Runs.st (fun t' k' => castTop (ef_jdk_43_method_13_RR m b d ) k') ?_
  show Runs p.tables e below _ (s₁.setTop (mkF m 0 #[.val (.ref b), .val (.ref d), .unset] []))
  refine Runs.st (fun t' k' => XS.aloadN X0.here hx rfl (hb hby d_jdk_43_method_13_0) rfl rfl k') ?_
  obtain ⟨cl1_, Ar1_, -, S1_, M1_, -, -⟩ := id V1
  refine Runs.st (X0.arraylength hx (by rw [e0]; exact Ar1_.1) (State.isArrayOf_alike hZ.alike Ar1_.2.1) (g := (mkF m 1 #[.val (.ref b), .val (.ref d), .unset] [(.ref b)])) rfl rfl (hb hby d_jdk_43_method_13_1)) ?_
  rw [len_of S1_ M1_]
  show Runs p.tables e below _ (s₁.setTop (mkF m 2 #[.val (.ref b), .val (.ref d), .unset] [(.int (5 : Int32))]))
  refine Runs.st (fun t' k' => XS.aloadN X0.here hx rfl (hb hby d_jdk_43_method_13_2) rfl rfl k') ?_
  obtain ⟨cl2_, Ar2_, -, S2_, M2_, -, -⟩ := id V2
  refine Runs.st (X0.arraylength hx (by rw [e0]; exact Ar2_.1) (State.isArrayOf_alike hZ.alike Ar2_.2.1) (g := (mkF m 3 #[.val (.ref b), .val (.ref d), .unset] [(.ref d), (.int (5 : Int32))])) rfl rfl (hb hby d_jdk_43_method_13_3)) ?_
  rw [len_of S2_ M2_]
  show Runs p.tables e below _ (s₁.setTop (mkF m 4 #[.val (.ref b), .val (.ref d), .unset] [(.int (5 : Int32)), (.int (5 : Int32))]))
  refine Runs.st (fun t' k' => XS.icmpNo X0.here hx rfl (hb hby d_jdk_43_method_13_4) rfl (teq rfl).2 k') ?_
  show Runs p.tables e below _ (s₁.setTop (mkF m 7 #[.val (.ref b), .val (.ref d), .unset] []))
  refine Runs.st (fun t' k' => XS.iconst X0.here hx rfl (hb hby d_jdk_43_method_13_7) k') ?_
  refine Runs.st (fun t' k' => XS.istoreN X0.here hx rfl (hb hby d_jdk_43_method_13_8) rfl (l' := #[.val (.ref b), .val (.ref d), .val (.int (0 : Int32))]) rfl k') ?_
  refine Runs.st (fun t' k' => XS.iloadN X0.here hx rfl (hb hby d_jdk_43_method_13_9) rfl k') ?_
  refine Runs.st (fun t' k' => XS.aloadN X0.here hx rfl (hb hby d_jdk_43_method_13_10) rfl rfl k') ?_
  obtain ⟨cl3_, Ar3_, -, S3_, M3_, -, -⟩ := id V1
  refine Runs.st (X0.arraylength hx (by rw [e0]; exact Ar3_.1) (State.isArrayOf_alike hZ.alike Ar3_.2.1) (g := (mkF m 11 #[.val (.ref b), .val (.ref d), .val (.int (0 : Int32))] [(.ref b), (.int (0 : Int32))])) rfl rfl (hb hby d_jdk_43_method_13_11)) ?_
  rw [len_of S3_ M3_]
  show Runs p.tables e below _ (s₁.setTop (mkF m 12 #[.val (.ref b), .val (.ref d), .val (.int (0 : Int32))] [(.int (5 : Int32)), (.int (0 : Int32))]))
  refine Runs.st (fun t' k' => XS.icmpNo X0.here hx rfl (hb hby d_jdk_43_method_13_12) rfl (tlt (by decide)).2.1 k') ?_
  show Runs p.tables e below _ (s₁.setTop (mkF m 15 #[.val (.ref b), .val (.ref d), .val (.int (0 : Int32))] []))
  refine Runs.st (fun t' k' => XS.aloadN X0.here hx rfl (hb hby d_jdk_43_method_13_15) rfl rfl k') ?_
  refine Runs.st (fun t' k' => XS.iloadN X0.here hx rfl (hb hby d_jdk_43_method_13_16) rfl k') ?_
  obtain ⟨cl4_, Ar4_, -, S4_, M4_, Ha4_, -⟩ := id V1
  have hin4_ : ¬ ((0 : Int32) < 0 ∨ cl4_.slots.size ≤ ((0 : Int32)).toNatClampNeg) := inb_of S4_ ⟨by decide, by decide⟩
  refine Runs.st (X0.baloadBytes hx (j := (0 : Int32)) (v := (.int x0)) (by rw [e0]; exact Ar4_.1) (State.isArrayOf_alike hZ.alike Ar4_.2.1) Ar4_.2.2 hin4_ (Ha4_.at hin4_ rfl) (g := (mkF m 17 #[.val (.ref b), .val (.ref d), .val (.int (0 : Int32))] [(.int (0 : Int32)), (.ref b)])) rfl rfl (hb hby d_jdk_43_method_13_17)) ?_
  show Runs p.tables e below _ (s₁.setTop (mkF m 18 #[.val (.ref b), .val (.ref d), .val (.int (0 : Int32))] [(.int x0)]))
  refine Runs.st (fun t' k' => XS.aloadN X0.here hx rfl (hb hby d_jdk_43_method_13_18) rfl rfl k') ?_
  refine Runs.st (fun t' k' => XS.iloadN X0.here hx rfl (hb hby d_jdk_43_method_13_19) rfl k') ?_
  obtain ⟨cl5_, Ar5_, -, S5_, M5_, Ha5_, -⟩ := id V2
  have hin5_ : ¬ ((0 : Int32) < 0 ∨ cl5_.slots.size ≤ ((0 : Int32)).toNatClampNeg) := inb_of S5_ ⟨by decide, by decide⟩
  refine Runs.st (X0.baloadBytes hx (j := (0 : Int32)) (v := (.int (82 : Int32))) (by rw [e0]; exact Ar5_.1) (State.isArrayOf_alike hZ.alike Ar5_.2.1) Ar5_.2.2 hin5_ (Ha5_.at hin5_ rfl) (g := (mkF m 20 #[.val (.ref b), .val (.ref d), .val (.int (0 : Int32))] [(.int (0 : Int32)), (.ref d), (.int x0)])) rfl rfl (hb hby d_jdk_43_method_13_20)) ?_
  show Runs p.tables e below _ (s₁.setTop (mkF m 21 #[.val (.ref b), .val (.ref d), .val (.int (0 : Int32))] [(.int (82 : Int32)), (.int x0)]))
  refine Runs.st (fun t' k' => XS.icmpNo X0.here hx rfl (hb hby d_jdk_43_method_13_21) rfl (feq y0).1 k') ?_
  show Runs p.tables e below _ (s₁.setTop (mkF m 24 #[.val (.ref b), .val (.ref d), .val (.int (0 : Int32))] []))
  refine Runs.st (fun t' k' => XS.iconst X0.here hx rfl (hb hby d_jdk_43_method_13_24) k') ?_
  refine Runs.ret X0 hlk (v := (some (.int (0 : Int32)))) (fun h => by rw [hret] at h; cases h) (by decide) (by decide) ?_ (fun fs hr => retN X0 hx (t := .boolean) hret (by simp) (hb hby d_jdk_43_method_13_25) hr)
  try rw [e0]
  exact ⟨rfl, N0, rfl⟩
def Q_rmS0 (Z : State) (a : Addr) (oo : Addr) (zc : Int32) (b d : Addr) (k1 kv0 : ClassId) (x0 x1 x2 x3 x4 : Int32) (h0 : Heap) (n0 : Nat) : Option Value → Heap → List Loc → Prop := (fun v h L => v = some (.int (0 : Int32)) ∧ Fr n0 L ∧ h = h0)
set_option maxRecDepth 65536 in
set_option maxHeartbeats 40000000 in
theorem rmS0 (l : Launch) (Z : State) (a0 : Array Value) (hw : ∀ d ∈ tables_1, d.before a0 Z = true) (ws : List Jvm.Cond) (a : Addr) (oo : Addr) (zc : Int32) (b d : Addr) (k1 kv0 : ClassId) (x0 x1 x2 x3 x4 : Int32) (h0 : Heap) (n0 : Nat) (Z0 : n0 ≤ h0.size) (hne : a ≠ oo) (Sc : Sta Z h0 "java/lang/String" "COMPACT_STRINGS" "Z" (.int zc)) (hzc : ¬ zc = 0) (Ea : Exa Z h0 a "java/lang/String") (Ca : Fld Z h0 a "java/lang/String" "coder" "B" (.int (0 : Int32))) (Va : Fld Z h0 a "java/lang/String" "value" "[B" (.ref b)) (Eo : Exa Z h0 oo "java/lang/String") (Co : Fld Z h0 oo "java/lang/String" "coder" "B" (.int (0 : Int32))) (Vo : Fld Z h0 oo "java/lang/String" "value" "[B" (.ref d)) (V1 : Arv Z h0 b k1 .byte (5 : Int32) [(.int x0), (.int x1), (.int x2), (.int x3), (.int x4)] (.int (0 : Int32))) (V0 : Arv Z h0 d kv0 .byte (5 : Int32) [(.int (82 : Int32)), (.int (101 : Int32)), (.int (100 : Int32)), (.int (105 : Int32)), (.int (115 : Int32))] (.int (0 : Int32)))  (y0 : ¬ x0 = (82 : Int32)) :
    MetFree l (⟨"java/lang/String", "equals", "(Ljava/lang/Object;)Z"⟩ : MethodName) (head1 (Jvm.Cond.code (⟨"java/lang/String", "equals", "(Ljava/lang/Object;)Z"⟩ : MethodName) jdk_42_method_66_code 3 (some .boolean) :: ws) ({ frames := 1, cells := 0, slots := 0, locals := 14 } : Room)) (fun ar_ U => ar_ = #[(.ref a), (.ref oo)] ∧ Z.Warmed39 U.vm ∧ U.heap = h0) (fun _ _ _ _ _ => True) (fun _ U o U' => Phi U (Q_rmS0 Z a oo zc b d k1 kv0 x0 x1 x2 x3 x4 h0 n0) ({ frames := 1, cells := 0, slots := 0, locals := 14 } : Room).cells ({ frames := 1, cells := 0, slots := 0, locals := 14 } : Room).slots o U') := by
  refine MetFree.of_bodySF (plainFor_of_name pn_java_lang_String) hisR ?_
  intro p e s m args below meth c s₁ Bd hml0 hP hK
  obtain ⟨rfl, hZ, hh⟩ := hP
  have hx := Bd.exec
  have hby := Bd.bytes
  have hlk := Bd.notSynchronized
  have hml : c.maxLocals = 3 := hml0
  have hown : s.vm.findClass "java/lang/String" = some m.cls := findClass_of_methodNamed Bd.named
  have hown0 := hown
  have hnm := (name_of_methodNamed Bd.named Bd.method).1
  have hret := Bd.returns
  have X0 : Stand p l e ({ frames := 1, cells := 0, slots := 0, locals := 14 } : Room) s m #[(.ref a), (.ref oo)] below meth c s₁ [] 0 0 := Stand.of_body Bd
  have e0 : s₁.heap = h0 := by rw [← hh, Bd.state]; rfl
  have N0 := Fr.nil n0
  have sz := Z0
  have K := Keep.refl h0 []
  show Runs p.tables e below (Phi s (Q_rmS0 Z a oo zc b d k1 kv0 x0 x1 x2 x3 x4 h0 n0) ({ frames := 1, cells := 0, slots := 0, locals := 14 } : Room).cells ({ frames := 1, cells := 0, slots := 0, locals := 14 } : Room).slots) _
  refine Runs.st (fun t' k' => castTop (ef_jdk_42_method_66_RR m a oo ) k') ?_
  show Runs p.tables e below _ (s₁.setTop (mkF m 0 #[.val (.ref a), .val (.ref oo), .unset] []))
  refine Runs.st (fun t' k' => XS.aloadN X0.here hx rfl (hb hby d_jdk_42_method_66_0) rfl rfl k') ?_
  refine Runs.st (fun t' k' => XS.aloadN X0.here hx rfl (hb hby d_jdk_42_method_66_1) rfl rfl k') ?_
  refine Runs.st (fun t' k' => Jvm.RoadKit.acmp (g := (mkF m 2 #[.val (.ref a), .val (.ref oo), .unset] [(.ref oo), (.ref a)])) X0 hx rfl rfl rfl (pc0 := 2) (pc' := 7) (same := false) rfl (hb hby d_jdk_42_method_66_2) rfl (decide_eq_false fun q => hne (Value.ref.inj q)) (by decide) (by decide) k') ?_
  show Runs p.tables e below _ (s₁.setTop (mkF m 7 #[.val (.ref a), .val (.ref oo), .unset] []))
  refine Runs.st (fun t' k' => XS.aloadN X0.here hx rfl (hb hby d_jdk_42_method_66_7) rfl rfl k') ?_
  obtain ⟨T1_, X1_, e1_, st1_⟩ := instY X0 hx hZ hown (hw _ (List.mem_of_getElem? (i := 77) rfl)) e0 (Ins.self Eo) (g := (mkF m 8 #[.val (.ref a), .val (.ref oo), .unset] [(.ref oo)])) rfl rfl (hb hby d_jdk_42_method_66_8)
  refine Runs.st (st1_) ?_
  show Runs p.tables e below _ (T1_.setTop (mkF m 11 #[.val (.ref a), .val (.ref oo), .unset] [(.int (1 : Int32))]))
  refine Runs.st (fun t' k' => XS.ifNo X1_.here hx rfl (hb hby d_jdk_42_method_66_11) rfl ((if0 _ _).trans (feq (by decide)).1) k') ?_
  show Runs p.tables e below _ (T1_.setTop (mkF m 14 #[.val (.ref a), .val (.ref oo), .unset] []))
  refine Runs.st (fun t' k' => XS.aloadN X1_.here hx rfl (hb hby d_jdk_42_method_66_14) rfl rfl k') ?_
  obtain ⟨T2_, X2_, e2_, st2_⟩ := castY X1_ hx hZ hown (hw _ (List.mem_of_getElem? (i := 77) rfl)) e1_ (Ins.self Eo) (g := (mkF m 15 #[.val (.ref a), .val (.ref oo), .unset] [(.ref oo)])) rfl rfl (hb hby d_jdk_42_method_66_15)
  refine Runs.st (st2_) ?_
  show Runs p.tables e below _ (T2_.setTop (mkF m 18 #[.val (.ref a), .val (.ref oo), .unset] [(.ref oo)]))
  refine Runs.st (fun t' k' => XS.astoreN X2_.here hx rfl (hb hby d_jdk_42_method_66_18) rfl rfl (l' := #[.val (.ref a), .val (.ref oo), .val (.ref oo)]) rfl k') ?_
  obtain ⟨T3_, X3_, e3_, st3_⟩ := getS2 X2_ hx hZ hown (host := "") (Or.inl (hw _ (List.mem_of_getElem? (i := 15) rfl))) Via.refl e2_ Sc (g := (mkF m 19 #[.val (.ref a), .val (.ref oo), .val (.ref oo)] [])) rfl (hb hby d_jdk_42_method_66_19)
  refine Runs.st (st3_) ?_
  show Runs p.tables e below _ (T3_.setTop (mkF m 22 #[.val (.ref a), .val (.ref oo), .val (.ref oo)] [(.int zc)]))
  refine Runs.st (fun t' k' => XS.ifNo X3_.here hx rfl (hb hby d_jdk_42_method_66_22) rfl ((if0 _ _).trans (feq hzc).1) k') ?_
  show Runs p.tables e below _ (T3_.setTop (mkF m 25 #[.val (.ref a), .val (.ref oo), .val (.ref oo)] []))
  refine Runs.st (fun t' k' => XS.aloadN X3_.here hx rfl (hb hby d_jdk_42_method_66_25) rfl rfl k') ?_
  obtain ⟨T4_, X4_, e4_, st4_⟩ := getF X3_ hx hZ hown (host := "") (Or.inl (hw _ (List.mem_of_getElem? (i := 27) rfl))) Via.refl e3_ Ca (g := (mkF m 26 #[.val (.ref a), .val (.ref oo), .val (.ref oo)] [(.ref a)])) rfl rfl (hb hby d_jdk_42_method_66_26)
  refine Runs.st (st4_) ?_
  show Runs p.tables e below _ (T4_.setTop (mkF m 29 #[.val (.ref a), .val (.ref oo), .val (.ref oo)] [(.int (0 : Int32))]))
  refine Runs.st (fun t' k' => XS.aloadN X4_.here hx rfl (hb hby d_jdk_42_method_66_29) rfl rfl k') ?_
  obtain ⟨T5_, X5_, e5_, st5_⟩ := getF X4_ hx hZ hown (host := "") (Or.inl (hw _ (List.mem_of_getElem? (i := 27) rfl))) Via.refl e4_ Co (g := (mkF m 30 #[.val (.ref a), .val (.ref oo), .val (.ref oo)] [(.ref oo), (.int (0 : Int32))])) rfl rfl (hb hby d_jdk_42_method_66_30)
  refine Runs.st (st5_) ?_
  show Runs p.tables e below _ (T5_.setTop (mkF m 33 #[.val (.ref a), .val (.ref oo), .val (.ref oo)] [(.int (0 : Int32)), (.int (0 : Int32))]))
  refine Runs.st (fun t' k' => XS.icmpNo X5_.here hx rfl (hb hby d_jdk_42_method_66_33) rfl (teq rfl).2 k') ?_
  show Runs p.tables e below _ (T5_.setTop (mkF m 36 #[.val (.ref a), .val (.ref oo), .val (.ref oo)] []))
  refine Runs.st (fun t' k' => XS.aloadN X5_.here hx rfl (hb hby d_jdk_42_method_66_36) rfl rfl k') ?_
  obtain ⟨T6_, X6_, e6_, st6_⟩ := getF X5_ hx hZ hown (host := "") (Or.inl (hw _ (List.mem_of_getElem? (i := 29) rfl))) Via.refl e5_ Va (g := (mkF m 37 #[.val (.ref a), .val (.ref oo), .val (.ref oo)] [(.ref a)])) rfl rfl (hb hby d_jdk_42_method_66_37)
  refine Runs.st (st6_) ?_
  show Runs p.tables e below _ (T6_.setTop (mkF m 40 #[.val (.ref a), .val (.ref oo), .val (.ref oo)] [(.ref b)]))
  refine Runs.st (fun t' k' => XS.aloadN X6_.here hx rfl (hb hby d_jdk_42_method_66_40) rfl rfl k') ?_
  obtain ⟨T7_, X7_, e7_, st7_⟩ := getF X6_ hx hZ hown (host := "") (Or.inl (hw _ (List.mem_of_getElem? (i := 29) rfl))) Via.refl e6_ Vo (g := (mkF m 41 #[.val (.ref a), .val (.ref oo), .val (.ref oo)] [(.ref oo), (.ref b)])) rfl rfl (hb hby d_jdk_42_method_66_41)
  refine Runs.st (st7_) ?_
  show Runs p.tables e below _ (T7_.setTop (mkF m 44 #[.val (.ref a), .val (.ref oo), .val (.ref oo)] [(.ref d), (.ref b)]))
  obtain ⟨_, _, ⟨T8_, L8_, k8_, n8_⟩, -, X8_, ⟨Lc8_, hQ8_, l8_, y8_, z8_⟩, st8_⟩ := Jvm.LawKit.callS X7_ hx (y := (⟨"java/lang/StringLatin1", "equals", "([B[B)Z"⟩ : MethodName)) hown (mvT hZ (hw _ (List.mem_of_getElem? (i := 78) rfl))) (mvT hZ (hw _ (List.mem_of_getElem? (i := 79) rfl))) (mvT hZ (hw _ (List.mem_of_getElem? (i := 53) rfl))) (mvT hZ (hw _ (List.mem_of_getElem? (i := 80) rfl))) (by decide) (backOf (W := 0) (rmL0 l Z a0 hw [] b d k1 kv0 x0 x1 x2 x3 x4 h0 n0 sz V1 V0 y0) hZ (hw _ (List.mem_of_getElem? (i := 80) rfl)) (hw _ (List.mem_of_getElem? (i := 53) rfl)) (by decide) (by decide)) (g := (mkF m 44 #[.val (.ref a), .val (.ref oo), .val (.ref oo)] [(.ref d), (.ref b)])) rfl (by rw [hml]; rfl) (argsL := [(.ref b), (.ref d)]) (rest := []) (lenOf pd__28_5bB_5bB_29Z rfl) rfl (by show 2 * 0 + _ ≤ _; exact Nat.le_of_eq rfl) (hb hby d_jdk_42_method_66_44) (fun _ _ => ⟨rfl, e7_, (by decide : 0 + 0 ≤ _), (by decide : 0 + 0 ≤ _)⟩)
  dsimp only [Pt.U, Pt.locs, Pt.cells, Pt.slots] at X8_ l8_ y8_ z8_ st8_ hQ8_
  subst l8_ y8_ z8_
  obtain ⟨rfl, N8_q, e8_⟩ := hQ8_
  have N8_ := Fr.app N0 N8_q
  refine Runs.st (st8_) ?_
  replace X8_ := wider X8_ (c' := 0) (s' := 0) (by decide) (by decide)
  show Runs p.tables e below _ (T8_.setTop (mkF m 47 #[.val (.ref a), .val (.ref oo), .val (.ref oo)] [(.int (0 : Int32))]))
  refine Runs.st (fun t' k' => XS.ifYes X8_.here hx rfl (pc0 := 47) (pc' := 54) rfl (hb hby d_jdk_42_method_66_47) rfl ((if0 _ _).trans (teq rfl).1) (by decide) (by decide) k') ?_
  show Runs p.tables e below _ (T8_.setTop (mkF m 54 #[.val (.ref a), .val (.ref oo), .val (.ref oo)] []))
  refine Runs.st (fun t' k' => XS.iconst X8_.here hx rfl (hb hby d_jdk_42_method_66_54) k') ?_
  refine Runs.ret X8_ hlk (v := (some (.int (0 : Int32)))) (fun h => by rw [hret] at h; cases h) (by decide) (by decide) ?_ (fun fs hr => retN X8_ hx (t := .boolean) hret (by simp) (hb hby d_jdk_42_method_66_55) hr)
  try rw [e8_]
  exact ⟨rfl, N8_, rfl⟩
def Q_rmL1 (Z : State) (b : Addr) (d : Addr) (k1 k2 : ClassId) (x0 x1 x2 x3 x4 : Int32) (h0 : Heap) (n0 : Nat) : Option Value → Heap → List Loc → Prop := (fun v h L => v = some (.int (0 : Int32)) ∧ Fr n0 L ∧ h = h0)
theorem d_jdk_43_method_13_26 : decode jdk_43_method_13_code 26 = .ok (.iinc 2 1, 3) := by decide +kernel
theorem d_jdk_43_method_13_29 : decode jdk_43_method_13_code 29 = .ok (.goto (-20), 3) := by decide +kernel
set_option maxRecDepth 65536 in
set_option maxHeartbeats 40000000 in
theorem rmL1 (l : Launch) (Z : State) (a0 : Array Value) (hw : ∀ d ∈ tables_1, d.before a0 Z = true) (ws : List Jvm.Cond) (b : Addr) (d : Addr) (k1 k2 : ClassId) (x0 x1 x2 x3 x4 : Int32) (h0 : Heap) (n0 : Nat) (Z0 : n0 ≤ h0.size) (V1 : Arv Z h0 b k1 .byte (5 : Int32) [(.int x0), (.int x1), (.int x2), (.int x3), (.int x4)] (.int (0 : Int32))) (V2 : Arv Z h0 d k2 .byte (5 : Int32) [(.int (82 : Int32)), (.int (101 : Int32)), (.int (100 : Int32)), (.int (105 : Int32)), (.int (115 : Int32))] (.int (0 : Int32))) (y0 : x0 = (82 : Int32)) (y1 : ¬ x1 = (101 : Int32)) :
    MetFree l (⟨"java/lang/StringLatin1", "equals", "([B[B)Z"⟩ : MethodName) (head1 (Jvm.Cond.code (⟨"java/lang/StringLatin1", "equals", "([B[B)Z"⟩ : MethodName) jdk_43_method_13_code 3 (some .boolean) :: ws) ({ frames := 0, cells := 0, slots := 0, locals := 0 } : Room)) (fun ar_ U => ar_ = #[(.ref b), (.ref d)] ∧ Z.Warmed39 U.vm ∧ U.heap = h0) (fun _ _ _ _ _ => True) (fun _ U o U' => Phi U (Q_rmL1 Z b d k1 k2 x0 x1 x2 x3 x4 h0 n0) ({ frames := 0, cells := 0, slots := 0, locals := 0 } : Room).cells ({ frames := 0, cells := 0, slots := 0, locals := 0 } : Room).slots o U') := by
  refine MetFree.of_bodySF (plainFor_of_name pn_java_lang_StringLatin1) hisR ?_
  intro p e s m args below meth c s₁ Bd hml0 hP hK
  obtain ⟨rfl, hZ, hh⟩ := hP
  have hx := Bd.exec
  have hby := Bd.bytes
  have hlk := Bd.notSynchronized
  have hml : c.maxLocals = 3 := hml0
  have hown : s.vm.findClass "java/lang/StringLatin1" = some m.cls := findClass_of_methodNamed Bd.named
  have hown0 := hown
  have hnm := (name_of_methodNamed Bd.named Bd.method).1
  have hret := Bd.returns
  have X0 : Stand p l e ({ frames := 0, cells := 0, slots := 0, locals := 0 } : Room) s m #[(.ref b), (.ref d)] below meth c s₁ [] 0 0 := Stand.of_body Bd
  have e0 : s₁.heap = h0 := by rw [← hh, Bd.state]; rfl
  have N0 := Fr.nil n0
  have sz := Z0
  have K := Keep.refl h0 []
  show Runs p.tables e below (Phi s (Q_rmL1 Z b d k1 k2 x0 x1 x2 x3 x4 h0 n0) ({ frames := 0, cells := 0, slots := 0, locals := 0 } : Room).cells ({ frames := 0, cells := 0, slots := 0, locals := 0 } : Room).slots) _
  refine Runs.st (fun t' k' => castTop (ef_jdk_43_method_13_RR m b d ) k') ?_
  show Runs p.tables e below _ (s₁.setTop (mkF m 0 #[.val (.ref b), .val (.ref d), .unset] []))
  refine Runs.st (fun t' k' => XS.aloadN X0.here hx rfl (hb hby d_jdk_43_method_13_0) rfl rfl k') ?_
  obtain ⟨cl1_, Ar1_, -, S1_, M1_, -, -⟩ := id V1
  refine Runs.st (X0.arraylength hx (by rw [e0]; exact Ar1_.1) (State.isArrayOf_alike hZ.alike Ar1_.2.1) (g := (mkF m 1 #[.val (.ref b), .val (.ref d), .unset] [(.ref b)])) rfl rfl (hb hby d_jdk_43_method_13_1)) ?_
  rw [len_of S1_ M1_]
  show Runs p.tables e below _ (s₁.setTop (mkF m 2 #[.val (.ref b), .val (.ref d), .unset] [(.int (5 : Int32))]))
  refine Runs.st (fun t' k' => XS.aloadN X0.here hx rfl (hb hby d_jdk_43_method_13_2) rfl rfl k') ?_
  obtain ⟨cl2_, Ar2_, -, S2_, M2_, -, -⟩ := id V2
  refine Runs.st (X0.arraylength hx (by rw [e0]; exact Ar2_.1) (State.isArrayOf_alike hZ.alike Ar2_.2.1) (g := (mkF m 3 #[.val (.ref b), .val (.ref d), .unset] [(.ref d), (.int (5 : Int32))])) rfl rfl (hb hby d_jdk_43_method_13_3)) ?_
  rw [len_of S2_ M2_]
  show Runs p.tables e below _ (s₁.setTop (mkF m 4 #[.val (.ref b), .val (.ref d), .unset] [(.int (5 : Int32)), (.int (5 : Int32))]))
  refine Runs.st (fun t' k' => XS.icmpNo X0.here hx rfl (hb hby d_jdk_43_method_13_4) rfl (teq rfl).2 k') ?_
  show Runs p.tables e below _ (s₁.setTop (mkF m 7 #[.val (.ref b), .val (.ref d), .unset] []))
  refine Runs.st (fun t' k' => XS.iconst X0.here hx rfl (hb hby d_jdk_43_method_13_7) k') ?_
  refine Runs.st (fun t' k' => XS.istoreN X0.here hx rfl (hb hby d_jdk_43_method_13_8) rfl (l' := #[.val (.ref b), .val (.ref d), .val (.int (0 : Int32))]) rfl k') ?_
  refine Runs.st (fun t' k' => XS.iloadN X0.here hx rfl (hb hby d_jdk_43_method_13_9) rfl k') ?_
  refine Runs.st (fun t' k' => XS.aloadN X0.here hx rfl (hb hby d_jdk_43_method_13_10) rfl rfl k') ?_
  obtain ⟨cl3_, Ar3_, -, S3_, M3_, -, -⟩ := id V1
  refine Runs.st (X0.arraylength hx (by rw [e0]; exact Ar3_.1) (State.isArrayOf_alike hZ.alike Ar3_.2.1) (g := (mkF m 11 #[.val (.ref b), .val (.ref d), .val (.int (0 : Int32))] [(.ref b), (.int (0 : Int32))])) rfl rfl (hb hby d_jdk_43_method_13_11)) ?_
  rw [len_of S3_ M3_]
  show Runs p.tables e below _ (s₁.setTop (mkF m 12 #[.val (.ref b), .val (.ref d), .val (.int (0 : Int32))] [(.int (5 : Int32)), (.int (0 : Int32))]))
  refine Runs.st (fun t' k' => XS.icmpNo X0.here hx rfl (hb hby d_jdk_43_method_13_12) rfl (tlt (by decide)).2.1 k') ?_
  show Runs p.tables e below _ (s₁.setTop (mkF m 15 #[.val (.ref b), .val (.ref d), .val (.int (0 : Int32))] []))
  refine Runs.st (fun t' k' => XS.aloadN X0.here hx rfl (hb hby d_jdk_43_method_13_15) rfl rfl k') ?_
  refine Runs.st (fun t' k' => XS.iloadN X0.here hx rfl (hb hby d_jdk_43_method_13_16) rfl k') ?_
  obtain ⟨cl4_, Ar4_, -, S4_, M4_, Ha4_, -⟩ := id V1
  have hin4_ : ¬ ((0 : Int32) < 0 ∨ cl4_.slots.size ≤ ((0 : Int32)).toNatClampNeg) := inb_of S4_ ⟨by decide, by decide⟩
  refine Runs.st (X0.baloadBytes hx (j := (0 : Int32)) (v := (.int x0)) (by rw [e0]; exact Ar4_.1) (State.isArrayOf_alike hZ.alike Ar4_.2.1) Ar4_.2.2 hin4_ (Ha4_.at hin4_ rfl) (g := (mkF m 17 #[.val (.ref b), .val (.ref d), .val (.int (0 : Int32))] [(.int (0 : Int32)), (.ref b)])) rfl rfl (hb hby d_jdk_43_method_13_17)) ?_
  show Runs p.tables e below _ (s₁.setTop (mkF m 18 #[.val (.ref b), .val (.ref d), .val (.int (0 : Int32))] [(.int x0)]))
  refine Runs.st (fun t' k' => XS.aloadN X0.here hx rfl (hb hby d_jdk_43_method_13_18) rfl rfl k') ?_
  refine Runs.st (fun t' k' => XS.iloadN X0.here hx rfl (hb hby d_jdk_43_method_13_19) rfl k') ?_
  obtain ⟨cl5_, Ar5_, -, S5_, M5_, Ha5_, -⟩ := id V2
  have hin5_ : ¬ ((0 : Int32) < 0 ∨ cl5_.slots.size ≤ ((0 : Int32)).toNatClampNeg) := inb_of S5_ ⟨by decide, by decide⟩
  refine Runs.st (X0.baloadBytes hx (j := (0 : Int32)) (v := (.int (82 : Int32))) (by rw [e0]; exact Ar5_.1) (State.isArrayOf_alike hZ.alike Ar5_.2.1) Ar5_.2.2 hin5_ (Ha5_.at hin5_ rfl) (g := (mkF m 20 #[.val (.ref b), .val (.ref d), .val (.int (0 : Int32))] [(.int (0 : Int32)), (.ref d), (.int x0)])) rfl rfl (hb hby d_jdk_43_method_13_20)) ?_
  show Runs p.tables e below _ (s₁.setTop (mkF m 21 #[.val (.ref b), .val (.ref d), .val (.int (0 : Int32))] [(.int (82 : Int32)), (.int x0)]))
  refine Runs.st (fun t' k' => XS.icmpYes X0.here hx rfl (pc0 := 21) (pc' := 26) rfl (hb hby d_jdk_43_method_13_21) rfl (teq y0).1 (by decide) (by decide) k') ?_
  show Runs p.tables e below _ (s₁.setTop (mkF m 26 #[.val (.ref b), .val (.ref d), .val (.int (0 : Int32))] []))
  refine Runs.st (fun t' k' => XS.iinc X0.here hx rfl (hb hby d_jdk_43_method_13_26) rfl (l' := #[.val (.ref b), .val (.ref d), .val (.int ((0 : Int32) + (1 : Int32)))]) rfl k') ?_
  show Runs p.tables e below _ (s₁.setTop (mkF m 29 #[.val (.ref b), .val (.ref d), .val (.int ((0 : Int32) + (1 : Int32)))] []))
  rw [show ((0 : Int32) + (1 : Int32)) = (1 : Int32) from rfl]
  show Runs p.tables e below _ (s₁.setTop (mkF m 29 #[.val (.ref b), .val (.ref d), .val (.int (1 : Int32))] []))
  refine Runs.st (fun t' k' => XS.goto X0.here hx rfl (pc0 := 29) (pc' := 9) rfl (hb hby d_jdk_43_method_13_29) (by decide) (by decide) k') ?_
  refine Runs.st (fun t' k' => XS.iloadN X0.here hx rfl (hb hby d_jdk_43_method_13_9) rfl k') ?_
  refine Runs.st (fun t' k' => XS.aloadN X0.here hx rfl (hb hby d_jdk_43_method_13_10) rfl rfl k') ?_
  obtain ⟨cl6_, Ar6_, -, S6_, M6_, -, -⟩ := id V1
  refine Runs.st (X0.arraylength hx (by rw [e0]; exact Ar6_.1) (State.isArrayOf_alike hZ.alike Ar6_.2.1) (g := (mkF m 11 #[.val (.ref b), .val (.ref d), .val (.int (1 : Int32))] [(.ref b), (.int (1 : Int32))])) rfl rfl (hb hby d_jdk_43_method_13_11)) ?_
  rw [len_of S6_ M6_]
  show Runs p.tables e below _ (s₁.setTop (mkF m 12 #[.val (.ref b), .val (.ref d), .val (.int (1 : Int32))] [(.int (5 : Int32)), (.int (1 : Int32))]))
  refine Runs.st (fun t' k' => XS.icmpNo X0.here hx rfl (hb hby d_jdk_43_method_13_12) rfl (tlt (by decide)).2.1 k') ?_
  show Runs p.tables e below _ (s₁.setTop (mkF m 15 #[.val (.ref b), .val (.ref d), .val (.int (1 : Int32))] []))
  refine Runs.st (fun t' k' => XS.aloadN X0.here hx rfl (hb hby d_jdk_43_method_13_15) rfl rfl k') ?_
  refine Runs.st (fun t' k' => XS.iloadN X0.here hx rfl (hb hby d_jdk_43_method_13_16) rfl k') ?_
  obtain ⟨cl7_, Ar7_, -, S7_, M7_, Ha7_, -⟩ := id V1
  have hin7_ : ¬ ((1 : Int32) < 0 ∨ cl7_.slots.size ≤ ((1 : Int32)).toNatClampNeg) := inb_of S7_ ⟨by decide, by decide⟩
  refine Runs.st (X0.baloadBytes hx (j := (1 : Int32)) (v := (.int x1)) (by rw [e0]; exact Ar7_.1) (State.isArrayOf_alike hZ.alike Ar7_.2.1) Ar7_.2.2 hin7_ (Ha7_.at hin7_ rfl) (g := (mkF m 17 #[.val (.ref b), .val (.ref d), .val (.int (1 : Int32))] [(.int (1 : Int32)), (.ref b)])) rfl rfl (hb hby d_jdk_43_method_13_17)) ?_
  show Runs p.tables e below _ (s₁.setTop (mkF m 18 #[.val (.ref b), .val (.ref d), .val (.int (1 : Int32))] [(.int x1)]))
  refine Runs.st (fun t' k' => XS.aloadN X0.here hx rfl (hb hby d_jdk_43_method_13_18) rfl rfl k') ?_
  refine Runs.st (fun t' k' => XS.iloadN X0.here hx rfl (hb hby d_jdk_43_method_13_19) rfl k') ?_
  obtain ⟨cl8_, Ar8_, -, S8_, M8_, Ha8_, -⟩ := id V2
  have hin8_ : ¬ ((1 : Int32) < 0 ∨ cl8_.slots.size ≤ ((1 : Int32)).toNatClampNeg) := inb_of S8_ ⟨by decide, by decide⟩
  refine Runs.st (X0.baloadBytes hx (j := (1 : Int32)) (v := (.int (101 : Int32))) (by rw [e0]; exact Ar8_.1) (State.isArrayOf_alike hZ.alike Ar8_.2.1) Ar8_.2.2 hin8_ (Ha8_.at hin8_ rfl) (g := (mkF m 20 #[.val (.ref b), .val (.ref d), .val (.int (1 : Int32))] [(.int (1 : Int32)), (.ref d), (.int x1)])) rfl rfl (hb hby d_jdk_43_method_13_20)) ?_
  show Runs p.tables e below _ (s₁.setTop (mkF m 21 #[.val (.ref b), .val (.ref d), .val (.int (1 : Int32))] [(.int (101 : Int32)), (.int x1)]))
  refine Runs.st (fun t' k' => XS.icmpNo X0.here hx rfl (hb hby d_jdk_43_method_13_21) rfl (feq y1).1 k') ?_
  show Runs p.tables e below _ (s₁.setTop (mkF m 24 #[.val (.ref b), .val (.ref d), .val (.int (1 : Int32))] []))
  refine Runs.st (fun t' k' => XS.iconst X0.here hx rfl (hb hby d_jdk_43_method_13_24) k') ?_
  refine Runs.ret X0 hlk (v := (some (.int (0 : Int32)))) (fun h => by rw [hret] at h; cases h) (by decide) (by decide) ?_ (fun fs hr => retN X0 hx (t := .boolean) hret (by simp) (hb hby d_jdk_43_method_13_25) hr)
  try rw [e0]
  exact ⟨rfl, N0, rfl⟩
def Q_rmS1 (Z : State) (a : Addr) (oo : Addr) (zc : Int32) (b d : Addr) (k1 kv0 : ClassId) (x0 x1 x2 x3 x4 : Int32) (h0 : Heap) (n0 : Nat) : Option Value → Heap → List Loc → Prop := (fun v h L => v = some (.int (0 : Int32)) ∧ Fr n0 L ∧ h = h0)
set_option maxRecDepth 65536 in
set_option maxHeartbeats 40000000 in
theorem rmS1 (l : Launch) (Z : State) (a0 : Array Value) (hw : ∀ d ∈ tables_1, d.before a0 Z = true) (ws : List Jvm.Cond) (a : Addr) (oo : Addr) (zc : Int32) (b d : Addr) (k1 kv0 : ClassId) (x0 x1 x2 x3 x4 : Int32) (h0 : Heap) (n0 : Nat) (Z0 : n0 ≤ h0.size) (hne : a ≠ oo) (Sc : Sta Z h0 "java/lang/String" "COMPACT_STRINGS" "Z" (.int zc)) (hzc : ¬ zc = 0) (Ea : Exa Z h0 a "java/lang/String") (Ca : Fld Z h0 a "java/lang/String" "coder" "B" (.int (0 : Int32))) (Va : Fld Z h0 a "java/lang/String" "value" "[B" (.ref b)) (Eo : Exa Z h0 oo "java/lang/String") (Co : Fld Z h0 oo "java/lang/String" "coder" "B" (.int (0 : Int32))) (Vo : Fld Z h0 oo "java/lang/String" "value" "[B" (.ref d)) (V1 : Arv Z h0 b k1 .byte (5 : Int32) [(.int x0), (.int x1), (.int x2), (.int x3), (.int x4)] (.int (0 : Int32))) (V0 : Arv Z h0 d kv0 .byte (5 : Int32) [(.int (82 : Int32)), (.int (101 : Int32)), (.int (100 : Int32)), (.int (105 : Int32)), (.int (115 : Int32))] (.int (0 : Int32))) (y0 : x0 = (82 : Int32)) (y1 : ¬ x1 = (101 : Int32)) :
    MetFree l (⟨"java/lang/String", "equals", "(Ljava/lang/Object;)Z"⟩ : MethodName) (head1 (Jvm.Cond.code (⟨"java/lang/String", "equals", "(Ljava/lang/Object;)Z"⟩ : MethodName) jdk_42_method_66_code 3 (some .boolean) :: ws) ({ frames := 1, cells := 0, slots := 0, locals := 14 } : Room)) (fun ar_ U => ar_ = #[(.ref a), (.ref oo)] ∧ Z.Warmed39 U.vm ∧ U.heap = h0) (fun _ _ _ _ _ => True) (fun _ U o U' => Phi U (Q_rmS1 Z a oo zc b d k1 kv0 x0 x1 x2 x3 x4 h0 n0) ({ frames := 1, cells := 0, slots := 0, locals := 14 } : Room).cells ({ frames := 1, cells := 0, slots := 0, locals := 14 } : Room).slots o U') := by
  refine MetFree.of_bodySF (plainFor_of_name pn_java_lang_String) hisR ?_
  intro p e s m args below meth c s₁ Bd hml0 hP hK
  obtain ⟨rfl, hZ, hh⟩ := hP
  have hx := Bd.exec
  have hby := Bd.bytes
  have hlk := Bd.notSynchronized
  have hml : c.maxLocals = 3 := hml0
  have hown : s.vm.findClass "java/lang/String" = some m.cls := findClass_of_methodNamed Bd.named
  have hown0 := hown
  have hnm := (name_of_methodNamed Bd.named Bd.method).1
  have hret := Bd.returns
  have X0 : Stand p l e ({ frames := 1, cells := 0, slots := 0, locals := 14 } : Room) s m #[(.ref a), (.ref oo)] below meth c s₁ [] 0 0 := Stand.of_body Bd
  have e0 : s₁.heap = h0 := by rw [← hh, Bd.state]; rfl
  have N0 := Fr.nil n0
  have sz := Z0
  have K := Keep.refl h0 []
  show Runs p.tables e below (Phi s (Q_rmS1 Z a oo zc b d k1 kv0 x0 x1 x2 x3 x4 h0 n0) ({ frames := 1, cells := 0, slots := 0, locals := 14 } : Room).cells ({ frames := 1, cells := 0, slots := 0, locals := 14 } : Room).slots) _
  refine Runs.st (fun t' k' => castTop (ef_jdk_42_method_66_RR m a oo ) k') ?_
  show Runs p.tables e below _ (s₁.setTop (mkF m 0 #[.val (.ref a), .val (.ref oo), .unset] []))
  refine Runs.st (fun t' k' => XS.aloadN X0.here hx rfl (hb hby d_jdk_42_method_66_0) rfl rfl k') ?_
  refine Runs.st (fun t' k' => XS.aloadN X0.here hx rfl (hb hby d_jdk_42_method_66_1) rfl rfl k') ?_
  refine Runs.st (fun t' k' => Jvm.RoadKit.acmp (g := (mkF m 2 #[.val (.ref a), .val (.ref oo), .unset] [(.ref oo), (.ref a)])) X0 hx rfl rfl rfl (pc0 := 2) (pc' := 7) (same := false) rfl (hb hby d_jdk_42_method_66_2) rfl (decide_eq_false fun q => hne (Value.ref.inj q)) (by decide) (by decide) k') ?_
  show Runs p.tables e below _ (s₁.setTop (mkF m 7 #[.val (.ref a), .val (.ref oo), .unset] []))
  refine Runs.st (fun t' k' => XS.aloadN X0.here hx rfl (hb hby d_jdk_42_method_66_7) rfl rfl k') ?_
  obtain ⟨T1_, X1_, e1_, st1_⟩ := instY X0 hx hZ hown (hw _ (List.mem_of_getElem? (i := 77) rfl)) e0 (Ins.self Eo) (g := (mkF m 8 #[.val (.ref a), .val (.ref oo), .unset] [(.ref oo)])) rfl rfl (hb hby d_jdk_42_method_66_8)
  refine Runs.st (st1_) ?_
  show Runs p.tables e below _ (T1_.setTop (mkF m 11 #[.val (.ref a), .val (.ref oo), .unset] [(.int (1 : Int32))]))
  refine Runs.st (fun t' k' => XS.ifNo X1_.here hx rfl (hb hby d_jdk_42_method_66_11) rfl ((if0 _ _).trans (feq (by decide)).1) k') ?_
  show Runs p.tables e below _ (T1_.setTop (mkF m 14 #[.val (.ref a), .val (.ref oo), .unset] []))
  refine Runs.st (fun t' k' => XS.aloadN X1_.here hx rfl (hb hby d_jdk_42_method_66_14) rfl rfl k') ?_
  obtain ⟨T2_, X2_, e2_, st2_⟩ := castY X1_ hx hZ hown (hw _ (List.mem_of_getElem? (i := 77) rfl)) e1_ (Ins.self Eo) (g := (mkF m 15 #[.val (.ref a), .val (.ref oo), .unset] [(.ref oo)])) rfl rfl (hb hby d_jdk_42_method_66_15)
  refine Runs.st (st2_) ?_
  show Runs p.tables e below _ (T2_.setTop (mkF m 18 #[.val (.ref a), .val (.ref oo), .unset] [(.ref oo)]))
  refine Runs.st (fun t' k' => XS.astoreN X2_.here hx rfl (hb hby d_jdk_42_method_66_18) rfl rfl (l' := #[.val (.ref a), .val (.ref oo), .val (.ref oo)]) rfl k') ?_
  obtain ⟨T3_, X3_, e3_, st3_⟩ := getS2 X2_ hx hZ hown (host := "") (Or.inl (hw _ (List.mem_of_getElem? (i := 15) rfl))) Via.refl e2_ Sc (g := (mkF m 19 #[.val (.ref a), .val (.ref oo), .val (.ref oo)] [])) rfl (hb hby d_jdk_42_method_66_19)
  refine Runs.st (st3_) ?_
  show Runs p.tables e below _ (T3_.setTop (mkF m 22 #[.val (.ref a), .val (.ref oo), .val (.ref oo)] [(.int zc)]))
  refine Runs.st (fun t' k' => XS.ifNo X3_.here hx rfl (hb hby d_jdk_42_method_66_22) rfl ((if0 _ _).trans (feq hzc).1) k') ?_
  show Runs p.tables e below _ (T3_.setTop (mkF m 25 #[.val (.ref a), .val (.ref oo), .val (.ref oo)] []))
  refine Runs.st (fun t' k' => XS.aloadN X3_.here hx rfl (hb hby d_jdk_42_method_66_25) rfl rfl k') ?_
  obtain ⟨T4_, X4_, e4_, st4_⟩ := getF X3_ hx hZ hown (host := "") (Or.inl (hw _ (List.mem_of_getElem? (i := 27) rfl))) Via.refl e3_ Ca (g := (mkF m 26 #[.val (.ref a), .val (.ref oo), .val (.ref oo)] [(.ref a)])) rfl rfl (hb hby d_jdk_42_method_66_26)
  refine Runs.st (st4_) ?_
  show Runs p.tables e below _ (T4_.setTop (mkF m 29 #[.val (.ref a), .val (.ref oo), .val (.ref oo)] [(.int (0 : Int32))]))
  refine Runs.st (fun t' k' => XS.aloadN X4_.here hx rfl (hb hby d_jdk_42_method_66_29) rfl rfl k') ?_
  obtain ⟨T5_, X5_, e5_, st5_⟩ := getF X4_ hx hZ hown (host := "") (Or.inl (hw _ (List.mem_of_getElem? (i := 27) rfl))) Via.refl e4_ Co (g := (mkF m 30 #[.val (.ref a), .val (.ref oo), .val (.ref oo)] [(.ref oo), (.int (0 : Int32))])) rfl rfl (hb hby d_jdk_42_method_66_30)
  refine Runs.st (st5_) ?_
  show Runs p.tables e below _ (T5_.setTop (mkF m 33 #[.val (.ref a), .val (.ref oo), .val (.ref oo)] [(.int (0 : Int32)), (.int (0 : Int32))]))
  refine Runs.st (fun t' k' => XS.icmpNo X5_.here hx rfl (hb hby d_jdk_42_method_66_33) rfl (teq rfl).2 k') ?_
  show Runs p.tables e below _ (T5_.setTop (mkF m 36 #[.val (.ref a), .val (.ref oo), .val (.ref oo)] []))
  refine Runs.st (fun t' k' => XS.aloadN X5_.here hx rfl (hb hby d_jdk_42_method_66_36) rfl rfl k') ?_
  obtain ⟨T6_, X6_, e6_, st6_⟩ := getF X5_ hx hZ hown (host := "") (Or.inl (hw _ (List.mem_of_getElem? (i := 29) rfl))) Via.refl e5_ Va (g := (mkF m 37 #[.val (.ref a), .val (.ref oo), .val (.ref oo)] [(.ref a)])) rfl rfl (hb hby d_jdk_42_method_66_37)
  refine Runs.st (st6_) ?_
  show Runs p.tables e below _ (T6_.setTop (mkF m 40 #[.val (.ref a), .val (.ref oo), .val (.ref oo)] [(.ref b)]))
  refine Runs.st (fun t' k' => XS.aloadN X6_.here hx rfl (hb hby d_jdk_42_method_66_40) rfl rfl k') ?_
  obtain ⟨T7_, X7_, e7_, st7_⟩ := getF X6_ hx hZ hown (host := "") (Or.inl (hw _ (List.mem_of_getElem? (i := 29) rfl))) Via.refl e6_ Vo (g := (mkF m 41 #[.val (.ref a), .val (.ref oo), .val (.ref oo)] [(.ref oo), (.ref b)])) rfl rfl (hb hby d_jdk_42_method_66_41)
  refine Runs.st (st7_) ?_
  show Runs p.tables e below _ (T7_.setTop (mkF m 44 #[.val (.ref a), .val (.ref oo), .val (.ref oo)] [(.ref d), (.ref b)]))
  obtain ⟨_, _, ⟨T8_, L8_, k8_, n8_⟩, -, X8_, ⟨Lc8_, hQ8_, l8_, y8_, z8_⟩, st8_⟩ := Jvm.LawKit.callS X7_ hx (y := (⟨"java/lang/StringLatin1", "equals", "([B[B)Z"⟩ : MethodName)) hown (mvT hZ (hw _ (List.mem_of_getElem? (i := 78) rfl))) (mvT hZ (hw _ (List.mem_of_getElem? (i := 79) rfl))) (mvT hZ (hw _ (List.mem_of_getElem? (i := 53) rfl))) (mvT hZ (hw _ (List.mem_of_getElem? (i := 80) rfl))) (by decide) (backOf (W := 0) (rmL1 l Z a0 hw [] b d k1 kv0 x0 x1 x2 x3 x4 h0 n0 sz V1 V0 y0 y1) hZ (hw _ (List.mem_of_getElem? (i := 80) rfl)) (hw _ (List.mem_of_getElem? (i := 53) rfl)) (by decide) (by decide)) (g := (mkF m 44 #[.val (.ref a), .val (.ref oo), .val (.ref oo)] [(.ref d), (.ref b)])) rfl (by rw [hml]; rfl) (argsL := [(.ref b), (.ref d)]) (rest := []) (lenOf pd__28_5bB_5bB_29Z rfl) rfl (by show 2 * 0 + _ ≤ _; exact Nat.le_of_eq rfl) (hb hby d_jdk_42_method_66_44) (fun _ _ => ⟨rfl, e7_, (by decide : 0 + 0 ≤ _), (by decide : 0 + 0 ≤ _)⟩)
  dsimp only [Pt.U, Pt.locs, Pt.cells, Pt.slots] at X8_ l8_ y8_ z8_ st8_ hQ8_
  subst l8_ y8_ z8_
  obtain ⟨rfl, N8_q, e8_⟩ := hQ8_
  have N8_ := Fr.app N0 N8_q
  refine Runs.st (st8_) ?_
  replace X8_ := wider X8_ (c' := 0) (s' := 0) (by decide) (by decide)
  show Runs p.tables e below _ (T8_.setTop (mkF m 47 #[.val (.ref a), .val (.ref oo), .val (.ref oo)] [(.int (0 : Int32))]))
  refine Runs.st (fun t' k' => XS.ifYes X8_.here hx rfl (pc0 := 47) (pc' := 54) rfl (hb hby d_jdk_42_method_66_47) rfl ((if0 _ _).trans (teq rfl).1) (by decide) (by decide) k') ?_
  show Runs p.tables e below _ (T8_.setTop (mkF m 54 #[.val (.ref a), .val (.ref oo), .val (.ref oo)] []))
  refine Runs.st (fun t' k' => XS.iconst X8_.here hx rfl (hb hby d_jdk_42_method_66_54) k') ?_
  refine Runs.ret X8_ hlk (v := (some (.int (0 : Int32)))) (fun h => by rw [hret] at h; cases h) (by decide) (by decide) ?_ (fun fs hr => retN X8_ hx (t := .boolean) hret (by simp) (hb hby d_jdk_42_method_66_55) hr)
  try rw [e8_]
  exact ⟨rfl, N8_, rfl⟩
def Q_rmL2 (Z : State) (b : Addr) (d : Addr) (k1 k2 : ClassId) (x0 x1 x2 x3 x4 : Int32) (h0 : Heap) (n0 : Nat) : Option Value → Heap → List Loc → Prop := (fun v h L => v = some (.int (0 : Int32)) ∧ Fr n0 L ∧ h = h0)
set_option maxRecDepth 65536 in
set_option maxHeartbeats 40000000 in
theorem rmL2 (l : Launch) (Z : State) (a0 : Array Value) (hw : ∀ d ∈ tables_1, d.before a0 Z = true) (ws : List Jvm.Cond) (b : Addr) (d : Addr) (k1 k2 : ClassId) (x0 x1 x2 x3 x4 : Int32) (h0 : Heap) (n0 : Nat) (Z0 : n0 ≤ h0.size) (V1 : Arv Z h0 b k1 .byte (5 : Int32) [(.int x0), (.int x1), (.int x2), (.int x3), (.int x4)] (.int (0 : Int32))) (V2 : Arv Z h0 d k2 .byte (5 : Int32) [(.int (82 : Int32)), (.int (101 : Int32)), (.int (100 : Int32)), (.int (105 : Int32)), (.int (115 : Int32))] (.int (0 : Int32))) (y0 : x0 = (82 : Int32)) (y1 : x1 = (101 : Int32)) (y2 : ¬ x2 = (100 : Int32)) :
    MetFree l (⟨"java/lang/StringLatin1", "equals", "([B[B)Z"⟩ : MethodName) (head1 (Jvm.Cond.code (⟨"java/lang/StringLatin1", "equals", "([B[B)Z"⟩ : MethodName) jdk_43_method_13_code 3 (some .boolean) :: ws) ({ frames := 0, cells := 0, slots := 0, locals := 0 } : Room)) (fun ar_ U => ar_ = #[(.ref b), (.ref d)] ∧ Z.Warmed39 U.vm ∧ U.heap = h0) (fun _ _ _ _ _ => True) (fun _ U o U' => Phi U (Q_rmL2 Z b d k1 k2 x0 x1 x2 x3 x4 h0 n0) ({ frames := 0, cells := 0, slots := 0, locals := 0 } : Room).cells ({ frames := 0, cells := 0, slots := 0, locals := 0 } : Room).slots o U') := by
  refine MetFree.of_bodySF (plainFor_of_name pn_java_lang_StringLatin1) hisR ?_
  intro p e s m args below meth c s₁ Bd hml0 hP hK
  obtain ⟨rfl, hZ, hh⟩ := hP
  have hx := Bd.exec
  have hby := Bd.bytes
  have hlk := Bd.notSynchronized
  have hml : c.maxLocals = 3 := hml0
  have hown : s.vm.findClass "java/lang/StringLatin1" = some m.cls := findClass_of_methodNamed Bd.named
  have hown0 := hown
  have hnm := (name_of_methodNamed Bd.named Bd.method).1
  have hret := Bd.returns
  have X0 : Stand p l e ({ frames := 0, cells := 0, slots := 0, locals := 0 } : Room) s m #[(.ref b), (.ref d)] below meth c s₁ [] 0 0 := Stand.of_body Bd
  have e0 : s₁.heap = h0 := by rw [← hh, Bd.state]; rfl
  have N0 := Fr.nil n0
  have sz := Z0
  have K := Keep.refl h0 []
  show Runs p.tables e below (Phi s (Q_rmL2 Z b d k1 k2 x0 x1 x2 x3 x4 h0 n0) ({ frames := 0, cells := 0, slots := 0, locals := 0 } : Room).cells ({ frames := 0, cells := 0, slots := 0, locals := 0 } : Room).slots) _
  refine Runs.st (fun t' k' => castTop (ef_jdk_43_method_13_RR m b d ) k') ?_
  show Runs p.tables e below _ (s₁.setTop (mkF m 0 #[.val (.ref b), .val (.ref d), .unset] []))
  refine Runs.st (fun t' k' => XS.aloadN X0.here hx rfl (hb hby d_jdk_43_method_13_0) rfl rfl k') ?_
  obtain ⟨cl1_, Ar1_, -, S1_, M1_, -, -⟩ := id V1
  refine Runs.st (X0.arraylength hx (by rw [e0]; exact Ar1_.1) (State.isArrayOf_alike hZ.alike Ar1_.2.1) (g := (mkF m 1 #[.val (.ref b), .val (.ref d), .unset] [(.ref b)])) rfl rfl (hb hby d_jdk_43_method_13_1)) ?_
  rw [len_of S1_ M1_]
  show Runs p.tables e below _ (s₁.setTop (mkF m 2 #[.val (.ref b), .val (.ref d), .unset] [(.int (5 : Int32))]))
  refine Runs.st (fun t' k' => XS.aloadN X0.here hx rfl (hb hby d_jdk_43_method_13_2) rfl rfl k') ?_
  obtain ⟨cl2_, Ar2_, -, S2_, M2_, -, -⟩ := id V2
  refine Runs.st (X0.arraylength hx (by rw [e0]; exact Ar2_.1) (State.isArrayOf_alike hZ.alike Ar2_.2.1) (g := (mkF m 3 #[.val (.ref b), .val (.ref d), .unset] [(.ref d), (.int (5 : Int32))])) rfl rfl (hb hby d_jdk_43_method_13_3)) ?_
  rw [len_of S2_ M2_]
  show Runs p.tables e below _ (s₁.setTop (mkF m 4 #[.val (.ref b), .val (.ref d), .unset] [(.int (5 : Int32)), (.int (5 : Int32))]))
  refine Runs.st (fun t' k' => XS.icmpNo X0.here hx rfl (hb hby d_jdk_43_method_13_4) rfl (teq rfl).2 k') ?_
  show Runs p.tables e below _ (s₁.setTop (mkF m 7 #[.val (.ref b), .val (.ref d), .unset] []))
  refine Runs.st (fun t' k' => XS.iconst X0.here hx rfl (hb hby d_jdk_43_method_13_7) k') ?_
  refine Runs.st (fun t' k' => XS.istoreN X0.here hx rfl (hb hby d_jdk_43_method_13_8) rfl (l' := #[.val (.ref b), .val (.ref d), .val (.int (0 : Int32))]) rfl k') ?_
  refine Runs.st (fun t' k' => XS.iloadN X0.here hx rfl (hb hby d_jdk_43_method_13_9) rfl k') ?_
  refine Runs.st (fun t' k' => XS.aloadN X0.here hx rfl (hb hby d_jdk_43_method_13_10) rfl rfl k') ?_
  obtain ⟨cl3_, Ar3_, -, S3_, M3_, -, -⟩ := id V1
  refine Runs.st (X0.arraylength hx (by rw [e0]; exact Ar3_.1) (State.isArrayOf_alike hZ.alike Ar3_.2.1) (g := (mkF m 11 #[.val (.ref b), .val (.ref d), .val (.int (0 : Int32))] [(.ref b), (.int (0 : Int32))])) rfl rfl (hb hby d_jdk_43_method_13_11)) ?_
  rw [len_of S3_ M3_]
  show Runs p.tables e below _ (s₁.setTop (mkF m 12 #[.val (.ref b), .val (.ref d), .val (.int (0 : Int32))] [(.int (5 : Int32)), (.int (0 : Int32))]))
  refine Runs.st (fun t' k' => XS.icmpNo X0.here hx rfl (hb hby d_jdk_43_method_13_12) rfl (tlt (by decide)).2.1 k') ?_
  show Runs p.tables e below _ (s₁.setTop (mkF m 15 #[.val (.ref b), .val (.ref d), .val (.int (0 : Int32))] []))
  refine Runs.st (fun t' k' => XS.aloadN X0.here hx rfl (hb hby d_jdk_43_method_13_15) rfl rfl k') ?_
  refine Runs.st (fun t' k' => XS.iloadN X0.here hx rfl (hb hby d_jdk_43_method_13_16) rfl k') ?_
  obtain ⟨cl4_, Ar4_, -, S4_, M4_, Ha4_, -⟩ := id V1
  have hin4_ : ¬ ((0 : Int32) < 0 ∨ cl4_.slots.size ≤ ((0 : Int32)).toNatClampNeg) := inb_of S4_ ⟨by decide, by decide⟩
  refine Runs.st (X0.baloadBytes hx (j := (0 : Int32)) (v := (.int x0)) (by rw [e0]; exact Ar4_.1) (State.isArrayOf_alike hZ.alike Ar4_.2.1) Ar4_.2.2 hin4_ (Ha4_.at hin4_ rfl) (g := (mkF m 17 #[.val (.ref b), .val (.ref d), .val (.int (0 : Int32))] [(.int (0 : Int32)), (.ref b)])) rfl rfl (hb hby d_jdk_43_method_13_17)) ?_
  show Runs p.tables e below _ (s₁.setTop (mkF m 18 #[.val (.ref b), .val (.ref d), .val (.int (0 : Int32))] [(.int x0)]))
  refine Runs.st (fun t' k' => XS.aloadN X0.here hx rfl (hb hby d_jdk_43_method_13_18) rfl rfl k') ?_
  refine Runs.st (fun t' k' => XS.iloadN X0.here hx rfl (hb hby d_jdk_43_method_13_19) rfl k') ?_
  obtain ⟨cl5_, Ar5_, -, S5_, M5_, Ha5_, -⟩ := id V2
  have hin5_ : ¬ ((0 : Int32) < 0 ∨ cl5_.slots.size ≤ ((0 : Int32)).toNatClampNeg) := inb_of S5_ ⟨by decide, by decide⟩
  refine Runs.st (X0.baloadBytes hx (j := (0 : Int32)) (v := (.int (82 : Int32))) (by rw [e0]; exact Ar5_.1) (State.isArrayOf_alike hZ.alike Ar5_.2.1) Ar5_.2.2 hin5_ (Ha5_.at hin5_ rfl) (g := (mkF m 20 #[.val (.ref b), .val (.ref d), .val (.int (0 : Int32))] [(.int (0 : Int32)), (.ref d), (.int x0)])) rfl rfl (hb hby d_jdk_43_method_13_20)) ?_
  show Runs p.tables e below _ (s₁.setTop (mkF m 21 #[.val (.ref b), .val (.ref d), .val (.int (0 : Int32))] [(.int (82 : Int32)), (.int x0)]))
  refine Runs.st (fun t' k' => XS.icmpYes X0.here hx rfl (pc0 := 21) (pc' := 26) rfl (hb hby d_jdk_43_method_13_21) rfl (teq y0).1 (by decide) (by decide) k') ?_
  show Runs p.tables e below _ (s₁.setTop (mkF m 26 #[.val (.ref b), .val (.ref d), .val (.int (0 : Int32))] []))
  refine Runs.st (fun t' k' => XS.iinc X0.here hx rfl (hb hby d_jdk_43_method_13_26) rfl (l' := #[.val (.ref b), .val (.ref d), .val (.int ((0 : Int32) + (1 : Int32)))]) rfl k') ?_
  show Runs p.tables e below _ (s₁.setTop (mkF m 29 #[.val (.ref b), .val (.ref d), .val (.int ((0 : Int32) + (1 : Int32)))] []))
  rw [show ((0 : Int32) + (1 : Int32)) = (1 : Int32) from rfl]
  show Runs p.tables e below _ (s₁.setTop (mkF m 29 #[.val (.ref b), .val (.ref d), .val (.int (1 : Int32))] []))
  refine Runs.st (fun t' k' => XS.goto X0.here hx rfl (pc0 := 29) (pc' := 9) rfl (hb hby d_jdk_43_method_13_29) (by decide) (by decide) k') ?_
  refine Runs.st (fun t' k' => XS.iloadN X0.here hx rfl (hb hby d_jdk_43_method_13_9) rfl k') ?_
  refine Runs.st (fun t' k' => XS.aloadN X0.here hx rfl (hb hby d_jdk_43_method_13_10) rfl rfl k') ?_
  obtain ⟨cl6_, Ar6_, -, S6_, M6_, -, -⟩ := id V1
  refine Runs.st (X0.arraylength hx (by rw [e0]; exact Ar6_.1) (State.isArrayOf_alike hZ.alike Ar6_.2.1) (g := (mkF m 11 #[.val (.ref b), .val (.ref d), .val (.int (1 : Int32))] [(.ref b), (.int (1 : Int32))])) rfl rfl (hb hby d_jdk_43_method_13_11)) ?_
  rw [len_of S6_ M6_]
  show Runs p.tables e below _ (s₁.setTop (mkF m 12 #[.val (.ref b), .val (.ref d), .val (.int (1 : Int32))] [(.int (5 : Int32)), (.int (1 : Int32))]))
  refine Runs.st (fun t' k' => XS.icmpNo X0.here hx rfl (hb hby d_jdk_43_method_13_12) rfl (tlt (by decide)).2.1 k') ?_
  show Runs p.tables e below _ (s₁.setTop (mkF m 15 #[.val (.ref b), .val (.ref d), .val (.int (1 : Int32))] []))
  refine Runs.st (fun t' k' => XS.aloadN X0.here hx rfl (hb hby d_jdk_43_method_13_15) rfl rfl k') ?_
  refine Runs.st (fun t' k' => XS.iloadN X0.here hx rfl (hb hby d_jdk_43_method_13_16) rfl k') ?_
  obtain ⟨cl7_, Ar7_, -, S7_, M7_, Ha7_, -⟩ := id V1
  have hin7_ : ¬ ((1 : Int32) < 0 ∨ cl7_.slots.size ≤ ((1 : Int32)).toNatClampNeg) := inb_of S7_ ⟨by decide, by decide⟩
  refine Runs.st (X0.baloadBytes hx (j := (1 : Int32)) (v := (.int x1)) (by rw [e0]; exact Ar7_.1) (State.isArrayOf_alike hZ.alike Ar7_.2.1) Ar7_.2.2 hin7_ (Ha7_.at hin7_ rfl) (g := (mkF m 17 #[.val (.ref b), .val (.ref d), .val (.int (1 : Int32))] [(.int (1 : Int32)), (.ref b)])) rfl rfl (hb hby d_jdk_43_method_13_17)) ?_
  show Runs p.tables e below _ (s₁.setTop (mkF m 18 #[.val (.ref b), .val (.ref d), .val (.int (1 : Int32))] [(.int x1)]))
  refine Runs.st (fun t' k' => XS.aloadN X0.here hx rfl (hb hby d_jdk_43_method_13_18) rfl rfl k') ?_
  refine Runs.st (fun t' k' => XS.iloadN X0.here hx rfl (hb hby d_jdk_43_method_13_19) rfl k') ?_
  obtain ⟨cl8_, Ar8_, -, S8_, M8_, Ha8_, -⟩ := id V2
  have hin8_ : ¬ ((1 : Int32) < 0 ∨ cl8_.slots.size ≤ ((1 : Int32)).toNatClampNeg) := inb_of S8_ ⟨by decide, by decide⟩
  refine Runs.st (X0.baloadBytes hx (j := (1 : Int32)) (v := (.int (101 : Int32))) (by rw [e0]; exact Ar8_.1) (State.isArrayOf_alike hZ.alike Ar8_.2.1) Ar8_.2.2 hin8_ (Ha8_.at hin8_ rfl) (g := (mkF m 20 #[.val (.ref b), .val (.ref d), .val (.int (1 : Int32))] [(.int (1 : Int32)), (.ref d), (.int x1)])) rfl rfl (hb hby d_jdk_43_method_13_20)) ?_
  show Runs p.tables e below _ (s₁.setTop (mkF m 21 #[.val (.ref b), .val (.ref d), .val (.int (1 : Int32))] [(.int (101 : Int32)), (.int x1)]))
  refine Runs.st (fun t' k' => XS.icmpYes X0.here hx rfl (pc0 := 21) (pc' := 26) rfl (hb hby d_jdk_43_method_13_21) rfl (teq y1).1 (by decide) (by decide) k') ?_
  show Runs p.tables e below _ (s₁.setTop (mkF m 26 #[.val (.ref b), .val (.ref d), .val (.int (1 : Int32))] []))
  refine Runs.st (fun t' k' => XS.iinc X0.here hx rfl (hb hby d_jdk_43_method_13_26) rfl (l' := #[.val (.ref b), .val (.ref d), .val (.int ((1 : Int32) + (1 : Int32)))]) rfl k') ?_
  show Runs p.tables e below _ (s₁.setTop (mkF m 29 #[.val (.ref b), .val (.ref d), .val (.int ((1 : Int32) + (1 : Int32)))] []))
  rw [show ((1 : Int32) + (1 : Int32)) = (2 : Int32) from rfl]
  show Runs p.tables e below _ (s₁.setTop (mkF m 29 #[.val (.ref b), .val (.ref d), .val (.int (2 : Int32))] []))
  refine Runs.st (fun t' k' => XS.goto X0.here hx rfl (pc0 := 29) (pc' := 9) rfl (hb hby d_jdk_43_method_13_29) (by decide) (by decide) k') ?_
  refine Runs.st (fun t' k' => XS.iloadN X0.here hx rfl (hb hby d_jdk_43_method_13_9) rfl k') ?_
  refine Runs.st (fun t' k' => XS.aloadN X0.here hx rfl (hb hby d_jdk_43_method_13_10) rfl rfl k') ?_
  obtain ⟨cl9_, Ar9_, -, S9_, M9_, -, -⟩ := id V1
  refine Runs.st (X0.arraylength hx (by rw [e0]; exact Ar9_.1) (State.isArrayOf_alike hZ.alike Ar9_.2.1) (g := (mkF m 11 #[.val (.ref b), .val (.ref d), .val (.int (2 : Int32))] [(.ref b), (.int (2 : Int32))])) rfl rfl (hb hby d_jdk_43_method_13_11)) ?_
  rw [len_of S9_ M9_]
  show Runs p.tables e below _ (s₁.setTop (mkF m 12 #[.val (.ref b), .val (.ref d), .val (.int (2 : Int32))] [(.int (5 : Int32)), (.int (2 : Int32))]))
  refine Runs.st (fun t' k' => XS.icmpNo X0.here hx rfl (hb hby d_jdk_43_method_13_12) rfl (tlt (by decide)).2.1 k') ?_
  show Runs p.tables e below _ (s₁.setTop (mkF m 15 #[.val (.ref b), .val (.ref d), .val (.int (2 : Int32))] []))
  refine Runs.st (fun t' k' => XS.aloadN X0.here hx rfl (hb hby d_jdk_43_method_13_15) rfl rfl k') ?_
  refine Runs.st (fun t' k' => XS.iloadN X0.here hx rfl (hb hby d_jdk_43_method_13_16) rfl k') ?_
  obtain ⟨cl10_, Ar10_, -, S10_, M10_, Ha10_, -⟩ := id V1
  have hin10_ : ¬ ((2 : Int32) < 0 ∨ cl10_.slots.size ≤ ((2 : Int32)).toNatClampNeg) := inb_of S10_ ⟨by decide, by decide⟩
  refine Runs.st (X0.baloadBytes hx (j := (2 : Int32)) (v := (.int x2)) (by rw [e0]; exact Ar10_.1) (State.isArrayOf_alike hZ.alike Ar10_.2.1) Ar10_.2.2 hin10_ (Ha10_.at hin10_ rfl) (g := (mkF m 17 #[.val (.ref b), .val (.ref d), .val (.int (2 : Int32))] [(.int (2 : Int32)), (.ref b)])) rfl rfl (hb hby d_jdk_43_method_13_17)) ?_
  show Runs p.tables e below _ (s₁.setTop (mkF m 18 #[.val (.ref b), .val (.ref d), .val (.int (2 : Int32))] [(.int x2)]))
  refine Runs.st (fun t' k' => XS.aloadN X0.here hx rfl (hb hby d_jdk_43_method_13_18) rfl rfl k') ?_
  refine Runs.st (fun t' k' => XS.iloadN X0.here hx rfl (hb hby d_jdk_43_method_13_19) rfl k') ?_
  obtain ⟨cl11_, Ar11_, -, S11_, M11_, Ha11_, -⟩ := id V2
  have hin11_ : ¬ ((2 : Int32) < 0 ∨ cl11_.slots.size ≤ ((2 : Int32)).toNatClampNeg) := inb_of S11_ ⟨by decide, by decide⟩
  refine Runs.st (X0.baloadBytes hx (j := (2 : Int32)) (v := (.int (100 : Int32))) (by rw [e0]; exact Ar11_.1) (State.isArrayOf_alike hZ.alike Ar11_.2.1) Ar11_.2.2 hin11_ (Ha11_.at hin11_ rfl) (g := (mkF m 20 #[.val (.ref b), .val (.ref d), .val (.int (2 : Int32))] [(.int (2 : Int32)), (.ref d), (.int x2)])) rfl rfl (hb hby d_jdk_43_method_13_20)) ?_
  show Runs p.tables e below _ (s₁.setTop (mkF m 21 #[.val (.ref b), .val (.ref d), .val (.int (2 : Int32))] [(.int (100 : Int32)), (.int x2)]))
  refine Runs.st (fun t' k' => XS.icmpNo X0.here hx rfl (hb hby d_jdk_43_method_13_21) rfl (feq y2).1 k') ?_
  show Runs p.tables e below _ (s₁.setTop (mkF m 24 #[.val (.ref b), .val (.ref d), .val (.int (2 : Int32))] []))
  refine Runs.st (fun t' k' => XS.iconst X0.here hx rfl (hb hby d_jdk_43_method_13_24) k') ?_
  refine Runs.ret X0 hlk (v := (some (.int (0 : Int32)))) (fun h => by rw [hret] at h; cases h) (by decide) (by decide) ?_ (fun fs hr => retN X0 hx (t := .boolean) hret (by simp) (hb hby d_jdk_43_method_13_25) hr)
  try rw [e0]
  exact ⟨rfl, N0, rfl⟩
def Q_rmS2 (Z : State) (a : Addr) (oo : Addr) (zc : Int32) (b d : Addr) (k1 kv0 : ClassId) (x0 x1 x2 x3 x4 : Int32) (h0 : Heap) (n0 : Nat) : Option Value → Heap → List Loc → Prop := (fun v h L => v = some (.int (0 : Int32)) ∧ Fr n0 L ∧ h = h0)
set_option maxRecDepth 65536 in
set_option maxHeartbeats 40000000 in
theorem rmS2 (l : Launch) (Z : State) (a0 : Array Value) (hw : ∀ d ∈ tables_1, d.before a0 Z = true) (ws : List Jvm.Cond) (a : Addr) (oo : Addr) (zc : Int32) (b d : Addr) (k1 kv0 : ClassId) (x0 x1 x2 x3 x4 : Int32) (h0 : Heap) (n0 : Nat) (Z0 : n0 ≤ h0.size) (hne : a ≠ oo) (Sc : Sta Z h0 "java/lang/String" "COMPACT_STRINGS" "Z" (.int zc)) (hzc : ¬ zc = 0) (Ea : Exa Z h0 a "java/lang/String") (Ca : Fld Z h0 a "java/lang/String" "coder" "B" (.int (0 : Int32))) (Va : Fld Z h0 a "java/lang/String" "value" "[B" (.ref b)) (Eo : Exa Z h0 oo "java/lang/String") (Co : Fld Z h0 oo "java/lang/String" "coder" "B" (.int (0 : Int32))) (Vo : Fld Z h0 oo "java/lang/String" "value" "[B" (.ref d)) (V1 : Arv Z h0 b k1 .byte (5 : Int32) [(.int x0), (.int x1), (.int x2), (.int x3), (.int x4)] (.int (0 : Int32))) (V0 : Arv Z h0 d kv0 .byte (5 : Int32) [(.int (82 : Int32)), (.int (101 : Int32)), (.int (100 : Int32)), (.int (105 : Int32)), (.int (115 : Int32))] (.int (0 : Int32))) (y0 : x0 = (82 : Int32)) (y1 : x1 = (101 : Int32)) (y2 : ¬ x2 = (100 : Int32)) :
    MetFree l (⟨"java/lang/String", "equals", "(Ljava/lang/Object;)Z"⟩ : MethodName) (head1 (Jvm.Cond.code (⟨"java/lang/String", "equals", "(Ljava/lang/Object;)Z"⟩ : MethodName) jdk_42_method_66_code 3 (some .boolean) :: ws) ({ frames := 1, cells := 0, slots := 0, locals := 14 } : Room)) (fun ar_ U => ar_ = #[(.ref a), (.ref oo)] ∧ Z.Warmed39 U.vm ∧ U.heap = h0) (fun _ _ _ _ _ => True) (fun _ U o U' => Phi U (Q_rmS2 Z a oo zc b d k1 kv0 x0 x1 x2 x3 x4 h0 n0) ({ frames := 1, cells := 0, slots := 0, locals := 14 } : Room).cells ({ frames := 1, cells := 0, slots := 0, locals := 14 } : Room).slots o U') := by
  refine MetFree.of_bodySF (plainFor_of_name pn_java_lang_String) hisR ?_
  intro p e s m args below meth c s₁ Bd hml0 hP hK
  obtain ⟨rfl, hZ, hh⟩ := hP
  have hx := Bd.exec
  have hby := Bd.bytes
  have hlk := Bd.notSynchronized
  have hml : c.maxLocals = 3 := hml0
  have hown : s.vm.findClass "java/lang/String" = some m.cls := findClass_of_methodNamed Bd.named
  have hown0 := hown
  have hnm := (name_of_methodNamed Bd.named Bd.method).1
  have hret := Bd.returns
  have X0 : Stand p l e ({ frames := 1, cells := 0, slots := 0, locals := 14 } : Room) s m #[(.ref a), (.ref oo)] below meth c s₁ [] 0 0 := Stand.of_body Bd
  have e0 : s₁.heap = h0 := by rw [← hh, Bd.state]; rfl
  have N0 := Fr.nil n0
  have sz := Z0
  have K := Keep.refl h0 []
  show Runs p.tables e below (Phi s (Q_rmS2 Z a oo zc b d k1 kv0 x0 x1 x2 x3 x4 h0 n0) ({ frames := 1, cells := 0, slots := 0, locals := 14 } : Room).cells ({ frames := 1, cells := 0, slots := 0, locals := 14 } : Room).slots) _
  refine Runs.st (fun t' k' => castTop (ef_jdk_42_method_66_RR m a oo ) k') ?_
  show Runs p.tables e below _ (s₁.setTop (mkF m 0 #[.val (.ref a), .val (.ref oo), .unset] []))
  refine Runs.st (fun t' k' => XS.aloadN X0.here hx rfl (hb hby d_jdk_42_method_66_0) rfl rfl k') ?_
  refine Runs.st (fun t' k' => XS.aloadN X0.here hx rfl (hb hby d_jdk_42_method_66_1) rfl rfl k') ?_
  refine Runs.st (fun t' k' => Jvm.RoadKit.acmp (g := (mkF m 2 #[.val (.ref a), .val (.ref oo), .unset] [(.ref oo), (.ref a)])) X0 hx rfl rfl rfl (pc0 := 2) (pc' := 7) (same := false) rfl (hb hby d_jdk_42_method_66_2) rfl (decide_eq_false fun q => hne (Value.ref.inj q)) (by decide) (by decide) k') ?_
  show Runs p.tables e below _ (s₁.setTop (mkF m 7 #[.val (.ref a), .val (.ref oo), .unset] []))
  refine Runs.st (fun t' k' => XS.aloadN X0.here hx rfl (hb hby d_jdk_42_method_66_7) rfl rfl k') ?_
  obtain ⟨T1_, X1_, e1_, st1_⟩ := instY X0 hx hZ hown (hw _ (List.mem_of_getElem? (i := 77) rfl)) e0 (Ins.self Eo) (g := (mkF m 8 #[.val (.ref a), .val (.ref oo), .unset] [(.ref oo)])) rfl rfl (hb hby d_jdk_42_method_66_8)
  refine Runs.st (st1_) ?_
  show Runs p.tables e below _ (T1_.setTop (mkF m 11 #[.val (.ref a), .val (.ref oo), .unset] [(.int (1 : Int32))]))
  refine Runs.st (fun t' k' => XS.ifNo X1_.here hx rfl (hb hby d_jdk_42_method_66_11) rfl ((if0 _ _).trans (feq (by decide)).1) k') ?_
  show Runs p.tables e below _ (T1_.setTop (mkF m 14 #[.val (.ref a), .val (.ref oo), .unset] []))
  refine Runs.st (fun t' k' => XS.aloadN X1_.here hx rfl (hb hby d_jdk_42_method_66_14) rfl rfl k') ?_
  obtain ⟨T2_, X2_, e2_, st2_⟩ := castY X1_ hx hZ hown (hw _ (List.mem_of_getElem? (i := 77) rfl)) e1_ (Ins.self Eo) (g := (mkF m 15 #[.val (.ref a), .val (.ref oo), .unset] [(.ref oo)])) rfl rfl (hb hby d_jdk_42_method_66_15)
  refine Runs.st (st2_) ?_
  show Runs p.tables e below _ (T2_.setTop (mkF m 18 #[.val (.ref a), .val (.ref oo), .unset] [(.ref oo)]))
  refine Runs.st (fun t' k' => XS.astoreN X2_.here hx rfl (hb hby d_jdk_42_method_66_18) rfl rfl (l' := #[.val (.ref a), .val (.ref oo), .val (.ref oo)]) rfl k') ?_
  obtain ⟨T3_, X3_, e3_, st3_⟩ := getS2 X2_ hx hZ hown (host := "") (Or.inl (hw _ (List.mem_of_getElem? (i := 15) rfl))) Via.refl e2_ Sc (g := (mkF m 19 #[.val (.ref a), .val (.ref oo), .val (.ref oo)] [])) rfl (hb hby d_jdk_42_method_66_19)
  refine Runs.st (st3_) ?_
  show Runs p.tables e below _ (T3_.setTop (mkF m 22 #[.val (.ref a), .val (.ref oo), .val (.ref oo)] [(.int zc)]))
  refine Runs.st (fun t' k' => XS.ifNo X3_.here hx rfl (hb hby d_jdk_42_method_66_22) rfl ((if0 _ _).trans (feq hzc).1) k') ?_
  show Runs p.tables e below _ (T3_.setTop (mkF m 25 #[.val (.ref a), .val (.ref oo), .val (.ref oo)] []))
  refine Runs.st (fun t' k' => XS.aloadN X3_.here hx rfl (hb hby d_jdk_42_method_66_25) rfl rfl k') ?_
  obtain ⟨T4_, X4_, e4_, st4_⟩ := getF X3_ hx hZ hown (host := "") (Or.inl (hw _ (List.mem_of_getElem? (i := 27) rfl))) Via.refl e3_ Ca (g := (mkF m 26 #[.val (.ref a), .val (.ref oo), .val (.ref oo)] [(.ref a)])) rfl rfl (hb hby d_jdk_42_method_66_26)
  refine Runs.st (st4_) ?_
  show Runs p.tables e below _ (T4_.setTop (mkF m 29 #[.val (.ref a), .val (.ref oo), .val (.ref oo)] [(.int (0 : Int32))]))
  refine Runs.st (fun t' k' => XS.aloadN X4_.here hx rfl (hb hby d_jdk_42_method_66_29) rfl rfl k') ?_
  obtain ⟨T5_, X5_, e5_, st5_⟩ := getF X4_ hx hZ hown (host := "") (Or.inl (hw _ (List.mem_of_getElem? (i := 27) rfl))) Via.refl e4_ Co (g := (mkF m 30 #[.val (.ref a), .val (.ref oo), .val (.ref oo)] [(.ref oo), (.int (0 : Int32))])) rfl rfl (hb hby d_jdk_42_method_66_30)
  refine Runs.st (st5_) ?_
  show Runs p.tables e below _ (T5_.setTop (mkF m 33 #[.val (.ref a), .val (.ref oo), .val (.ref oo)] [(.int (0 : Int32)), (.int (0 : Int32))]))
  refine Runs.st (fun t' k' => XS.icmpNo X5_.here hx rfl (hb hby d_jdk_42_method_66_33) rfl (teq rfl).2 k') ?_
  show Runs p.tables e below _ (T5_.setTop (mkF m 36 #[.val (.ref a), .val (.ref oo), .val (.ref oo)] []))
  refine Runs.st (fun t' k' => XS.aloadN X5_.here hx rfl (hb hby d_jdk_42_method_66_36) rfl rfl k') ?_
  obtain ⟨T6_, X6_, e6_, st6_⟩ := getF X5_ hx hZ hown (host := "") (Or.inl (hw _ (List.mem_of_getElem? (i := 29) rfl))) Via.refl e5_ Va (g := (mkF m 37 #[.val (.ref a), .val (.ref oo), .val (.ref oo)] [(.ref a)])) rfl rfl (hb hby d_jdk_42_method_66_37)
  refine Runs.st (st6_) ?_
  show Runs p.tables e below _ (T6_.setTop (mkF m 40 #[.val (.ref a), .val (.ref oo), .val (.ref oo)] [(.ref b)]))
  refine Runs.st (fun t' k' => XS.aloadN X6_.here hx rfl (hb hby d_jdk_42_method_66_40) rfl rfl k') ?_
  obtain ⟨T7_, X7_, e7_, st7_⟩ := getF X6_ hx hZ hown (host := "") (Or.inl (hw _ (List.mem_of_getElem? (i := 29) rfl))) Via.refl e6_ Vo (g := (mkF m 41 #[.val (.ref a), .val (.ref oo), .val (.ref oo)] [(.ref oo), (.ref b)])) rfl rfl (hb hby d_jdk_42_method_66_41)
  refine Runs.st (st7_) ?_
  show Runs p.tables e below _ (T7_.setTop (mkF m 44 #[.val (.ref a), .val (.ref oo), .val (.ref oo)] [(.ref d), (.ref b)]))
  obtain ⟨_, _, ⟨T8_, L8_, k8_, n8_⟩, -, X8_, ⟨Lc8_, hQ8_, l8_, y8_, z8_⟩, st8_⟩ := Jvm.LawKit.callS X7_ hx (y := (⟨"java/lang/StringLatin1", "equals", "([B[B)Z"⟩ : MethodName)) hown (mvT hZ (hw _ (List.mem_of_getElem? (i := 78) rfl))) (mvT hZ (hw _ (List.mem_of_getElem? (i := 79) rfl))) (mvT hZ (hw _ (List.mem_of_getElem? (i := 53) rfl))) (mvT hZ (hw _ (List.mem_of_getElem? (i := 80) rfl))) (by decide) (backOf (W := 0) (rmL2 l Z a0 hw [] b d k1 kv0 x0 x1 x2 x3 x4 h0 n0 sz V1 V0 y0 y1 y2) hZ (hw _ (List.mem_of_getElem? (i := 80) rfl)) (hw _ (List.mem_of_getElem? (i := 53) rfl)) (by decide) (by decide)) (g := (mkF m 44 #[.val (.ref a), .val (.ref oo), .val (.ref oo)] [(.ref d), (.ref b)])) rfl (by rw [hml]; rfl) (argsL := [(.ref b), (.ref d)]) (rest := []) (lenOf pd__28_5bB_5bB_29Z rfl) rfl (by show 2 * 0 + _ ≤ _; exact Nat.le_of_eq rfl) (hb hby d_jdk_42_method_66_44) (fun _ _ => ⟨rfl, e7_, (by decide : 0 + 0 ≤ _), (by decide : 0 + 0 ≤ _)⟩)
  dsimp only [Pt.U, Pt.locs, Pt.cells, Pt.slots] at X8_ l8_ y8_ z8_ st8_ hQ8_
  subst l8_ y8_ z8_
  obtain ⟨rfl, N8_q, e8_⟩ := hQ8_
  have N8_ := Fr.app N0 N8_q
  refine Runs.st (st8_) ?_
  replace X8_ := wider X8_ (c' := 0) (s' := 0) (by decide) (by decide)
  show Runs p.tables e below _ (T8_.setTop (mkF m 47 #[.val (.ref a), .val (.ref oo), .val (.ref oo)] [(.int (0 : Int32))]))
  refine Runs.st (fun t' k' => XS.ifYes X8_.here hx rfl (pc0 := 47) (pc' := 54) rfl (hb hby d_jdk_42_method_66_47) rfl ((if0 _ _).trans (teq rfl).1) (by decide) (by decide) k') ?_
  show Runs p.tables e below _ (T8_.setTop (mkF m 54 #[.val (.ref a), .val (.ref oo), .val (.ref oo)] []))
  refine Runs.st (fun t' k' => XS.iconst X8_.here hx rfl (hb hby d_jdk_42_method_66_54) k') ?_
  refine Runs.ret X8_ hlk (v := (some (.int (0 : Int32)))) (fun h => by rw [hret] at h; cases h) (by decide) (by decide) ?_ (fun fs hr => retN X8_ hx (t := .boolean) hret (by simp) (hb hby d_jdk_42_method_66_55) hr)
  try rw [e8_]
  exact ⟨rfl, N8_, rfl⟩
def Q_rmL3 (Z : State) (b : Addr) (d : Addr) (k1 k2 : ClassId) (x0 x1 x2 x3 x4 : Int32) (h0 : Heap) (n0 : Nat) : Option Value → Heap → List Loc → Prop := (fun v h L => v = some (.int (0 : Int32)) ∧ Fr n0 L ∧ h = h0)
set_option maxRecDepth 65536 in
set_option maxHeartbeats 40000000 in
theorem rmL3 (l : Launch) (Z : State) (a0 : Array Value) (hw : ∀ d ∈ tables_1, d.before a0 Z = true) (ws : List Jvm.Cond) (b : Addr) (d : Addr) (k1 k2 : ClassId) (x0 x1 x2 x3 x4 : Int32) (h0 : Heap) (n0 : Nat) (Z0 : n0 ≤ h0.size) (V1 : Arv Z h0 b k1 .byte (5 : Int32) [(.int x0), (.int x1), (.int x2), (.int x3), (.int x4)] (.int (0 : Int32))) (V2 : Arv Z h0 d k2 .byte (5 : Int32) [(.int (82 : Int32)), (.int (101 : Int32)), (.int (100 : Int32)), (.int (105 : Int32)), (.int (115 : Int32))] (.int (0 : Int32))) (y0 : x0 = (82 : Int32)) (y1 : x1 = (101 : Int32)) (y2 : x2 = (100 : Int32)) (y3 : ¬ x3 = (105 : Int32)) :
    MetFree l (⟨"java/lang/StringLatin1", "equals", "([B[B)Z"⟩ : MethodName) (head1 (Jvm.Cond.code (⟨"java/lang/StringLatin1", "equals", "([B[B)Z"⟩ : MethodName) jdk_43_method_13_code 3 (some .boolean) :: ws) ({ frames := 0, cells := 0, slots := 0, locals := 0 } : Room)) (fun ar_ U => ar_ = #[(.ref b), (.ref d)] ∧ Z.Warmed39 U.vm ∧ U.heap = h0) (fun _ _ _ _ _ => True) (fun _ U o U' => Phi U (Q_rmL3 Z b d k1 k2 x0 x1 x2 x3 x4 h0 n0) ({ frames := 0, cells := 0, slots := 0, locals := 0 } : Room).cells ({ frames := 0, cells := 0, slots := 0, locals := 0 } : Room).slots o U') := by
  refine MetFree.of_bodySF (plainFor_of_name pn_java_lang_StringLatin1) hisR ?_
  intro p e s m args below meth c s₁ Bd hml0 hP hK
  obtain ⟨rfl, hZ, hh⟩ := hP
  have hx := Bd.exec
  have hby := Bd.bytes
  have hlk := Bd.notSynchronized
  have hml : c.maxLocals = 3 := hml0
  have hown : s.vm.findClass "java/lang/StringLatin1" = some m.cls := findClass_of_methodNamed Bd.named
  have hown0 := hown
  have hnm := (name_of_methodNamed Bd.named Bd.method).1
  have hret := Bd.returns
  have X0 : Stand p l e ({ frames := 0, cells := 0, slots := 0, locals := 0 } : Room) s m #[(.ref b), (.ref d)] below meth c s₁ [] 0 0 := Stand.of_body Bd
  have e0 : s₁.heap = h0 := by rw [← hh, Bd.state]; rfl
  have N0 := Fr.nil n0
  have sz := Z0
  have K := Keep.refl h0 []
  show Runs p.tables e below (Phi s (Q_rmL3 Z b d k1 k2 x0 x1 x2 x3 x4 h0 n0) ({ frames := 0, cells := 0, slots := 0, locals := 0 } : Room).cells ({ frames := 0, cells := 0, slots := 0, locals := 0 } : Room).slots) _
  refine Runs.st (fun t' k' => castTop (ef_jdk_43_method_13_RR m b d ) k') ?_
  show Runs p.tables e below _ (s₁.setTop (mkF m 0 #[.val (.ref b), .val (.ref d), .unset] []))
  refine Runs.st (fun t' k' => XS.aloadN X0.here hx rfl (hb hby d_jdk_43_method_13_0) rfl rfl k') ?_
  obtain ⟨cl1_, Ar1_, -, S1_, M1_, -, -⟩ := id V1
  refine Runs.st (X0.arraylength hx (by rw [e0]; exact Ar1_.1) (State.isArrayOf_alike hZ.alike Ar1_.2.1) (g := (mkF m 1 #[.val (.ref b), .val (.ref d), .unset] [(.ref b)])) rfl rfl (hb hby d_jdk_43_method_13_1)) ?_
  rw [len_of S1_ M1_]
  show Runs p.tables e below _ (s₁.setTop (mkF m 2 #[.val (.ref b), .val (.ref d), .unset] [(.int (5 : Int32))]))
  refine Runs.st (fun t' k' => XS.aloadN X0.here hx rfl (hb hby d_jdk_43_method_13_2) rfl rfl k') ?_
  obtain ⟨cl2_, Ar2_, -, S2_, M2_, -, -⟩ := id V2
  refine Runs.st (X0.arraylength hx (by rw [e0]; exact Ar2_.1) (State.isArrayOf_alike hZ.alike Ar2_.2.1) (g := (mkF m 3 #[.val (.ref b), .val (.ref d), .unset] [(.ref d), (.int (5 : Int32))])) rfl rfl (hb hby d_jdk_43_method_13_3)) ?_
  rw [len_of S2_ M2_]
  show Runs p.tables e below _ (s₁.setTop (mkF m 4 #[.val (.ref b), .val (.ref d), .unset] [(.int (5 : Int32)), (.int (5 : Int32))]))
  refine Runs.st (fun t' k' => XS.icmpNo X0.here hx rfl (hb hby d_jdk_43_method_13_4) rfl (teq rfl).2 k') ?_
  show Runs p.tables e below _ (s₁.setTop (mkF m 7 #[.val (.ref b), .val (.ref d), .unset] []))
  refine Runs.st (fun t' k' => XS.iconst X0.here hx rfl (hb hby d_jdk_43_method_13_7) k') ?_
  refine Runs.st (fun t' k' => XS.istoreN X0.here hx rfl (hb hby d_jdk_43_method_13_8) rfl (l' := #[.val (.ref b), .val (.ref d), .val (.int (0 : Int32))]) rfl k') ?_
  refine Runs.st (fun t' k' => XS.iloadN X0.here hx rfl (hb hby d_jdk_43_method_13_9) rfl k') ?_
  refine Runs.st (fun t' k' => XS.aloadN X0.here hx rfl (hb hby d_jdk_43_method_13_10) rfl rfl k') ?_
  obtain ⟨cl3_, Ar3_, -, S3_, M3_, -, -⟩ := id V1
  refine Runs.st (X0.arraylength hx (by rw [e0]; exact Ar3_.1) (State.isArrayOf_alike hZ.alike Ar3_.2.1) (g := (mkF m 11 #[.val (.ref b), .val (.ref d), .val (.int (0 : Int32))] [(.ref b), (.int (0 : Int32))])) rfl rfl (hb hby d_jdk_43_method_13_11)) ?_
  rw [len_of S3_ M3_]
  show Runs p.tables e below _ (s₁.setTop (mkF m 12 #[.val (.ref b), .val (.ref d), .val (.int (0 : Int32))] [(.int (5 : Int32)), (.int (0 : Int32))]))
  refine Runs.st (fun t' k' => XS.icmpNo X0.here hx rfl (hb hby d_jdk_43_method_13_12) rfl (tlt (by decide)).2.1 k') ?_
  show Runs p.tables e below _ (s₁.setTop (mkF m 15 #[.val (.ref b), .val (.ref d), .val (.int (0 : Int32))] []))
  refine Runs.st (fun t' k' => XS.aloadN X0.here hx rfl (hb hby d_jdk_43_method_13_15) rfl rfl k') ?_
  refine Runs.st (fun t' k' => XS.iloadN X0.here hx rfl (hb hby d_jdk_43_method_13_16) rfl k') ?_
  obtain ⟨cl4_, Ar4_, -, S4_, M4_, Ha4_, -⟩ := id V1
  have hin4_ : ¬ ((0 : Int32) < 0 ∨ cl4_.slots.size ≤ ((0 : Int32)).toNatClampNeg) := inb_of S4_ ⟨by decide, by decide⟩
  refine Runs.st (X0.baloadBytes hx (j := (0 : Int32)) (v := (.int x0)) (by rw [e0]; exact Ar4_.1) (State.isArrayOf_alike hZ.alike Ar4_.2.1) Ar4_.2.2 hin4_ (Ha4_.at hin4_ rfl) (g := (mkF m 17 #[.val (.ref b), .val (.ref d), .val (.int (0 : Int32))] [(.int (0 : Int32)), (.ref b)])) rfl rfl (hb hby d_jdk_43_method_13_17)) ?_
  show Runs p.tables e below _ (s₁.setTop (mkF m 18 #[.val (.ref b), .val (.ref d), .val (.int (0 : Int32))] [(.int x0)]))
  refine Runs.st (fun t' k' => XS.aloadN X0.here hx rfl (hb hby d_jdk_43_method_13_18) rfl rfl k') ?_
  refine Runs.st (fun t' k' => XS.iloadN X0.here hx rfl (hb hby d_jdk_43_method_13_19) rfl k') ?_
  obtain ⟨cl5_, Ar5_, -, S5_, M5_, Ha5_, -⟩ := id V2
  have hin5_ : ¬ ((0 : Int32) < 0 ∨ cl5_.slots.size ≤ ((0 : Int32)).toNatClampNeg) := inb_of S5_ ⟨by decide, by decide⟩
  refine Runs.st (X0.baloadBytes hx (j := (0 : Int32)) (v := (.int (82 : Int32))) (by rw [e0]; exact Ar5_.1) (State.isArrayOf_alike hZ.alike Ar5_.2.1) Ar5_.2.2 hin5_ (Ha5_.at hin5_ rfl) (g := (mkF m 20 #[.val (.ref b), .val (.ref d), .val (.int (0 : Int32))] [(.int (0 : Int32)), (.ref d), (.int x0)])) rfl rfl (hb hby d_jdk_43_method_13_20)) ?_
  show Runs p.tables e below _ (s₁.setTop (mkF m 21 #[.val (.ref b), .val (.ref d), .val (.int (0 : Int32))] [(.int (82 : Int32)), (.int x0)]))
  refine Runs.st (fun t' k' => XS.icmpYes X0.here hx rfl (pc0 := 21) (pc' := 26) rfl (hb hby d_jdk_43_method_13_21) rfl (teq y0).1 (by decide) (by decide) k') ?_
  show Runs p.tables e below _ (s₁.setTop (mkF m 26 #[.val (.ref b), .val (.ref d), .val (.int (0 : Int32))] []))
  refine Runs.st (fun t' k' => XS.iinc X0.here hx rfl (hb hby d_jdk_43_method_13_26) rfl (l' := #[.val (.ref b), .val (.ref d), .val (.int ((0 : Int32) + (1 : Int32)))]) rfl k') ?_
  show Runs p.tables e below _ (s₁.setTop (mkF m 29 #[.val (.ref b), .val (.ref d), .val (.int ((0 : Int32) + (1 : Int32)))] []))
  rw [show ((0 : Int32) + (1 : Int32)) = (1 : Int32) from rfl]
  show Runs p.tables e below _ (s₁.setTop (mkF m 29 #[.val (.ref b), .val (.ref d), .val (.int (1 : Int32))] []))
  refine Runs.st (fun t' k' => XS.goto X0.here hx rfl (pc0 := 29) (pc' := 9) rfl (hb hby d_jdk_43_method_13_29) (by decide) (by decide) k') ?_
  refine Runs.st (fun t' k' => XS.iloadN X0.here hx rfl (hb hby d_jdk_43_method_13_9) rfl k') ?_
  refine Runs.st (fun t' k' => XS.aloadN X0.here hx rfl (hb hby d_jdk_43_method_13_10) rfl rfl k') ?_
  obtain ⟨cl6_, Ar6_, -, S6_, M6_, -, -⟩ := id V1
  refine Runs.st (X0.arraylength hx (by rw [e0]; exact Ar6_.1) (State.isArrayOf_alike hZ.alike Ar6_.2.1) (g := (mkF m 11 #[.val (.ref b), .val (.ref d), .val (.int (1 : Int32))] [(.ref b), (.int (1 : Int32))])) rfl rfl (hb hby d_jdk_43_method_13_11)) ?_
  rw [len_of S6_ M6_]
  show Runs p.tables e below _ (s₁.setTop (mkF m 12 #[.val (.ref b), .val (.ref d), .val (.int (1 : Int32))] [(.int (5 : Int32)), (.int (1 : Int32))]))
  refine Runs.st (fun t' k' => XS.icmpNo X0.here hx rfl (hb hby d_jdk_43_method_13_12) rfl (tlt (by decide)).2.1 k') ?_
  show Runs p.tables e below _ (s₁.setTop (mkF m 15 #[.val (.ref b), .val (.ref d), .val (.int (1 : Int32))] []))
  refine Runs.st (fun t' k' => XS.aloadN X0.here hx rfl (hb hby d_jdk_43_method_13_15) rfl rfl k') ?_
  refine Runs.st (fun t' k' => XS.iloadN X0.here hx rfl (hb hby d_jdk_43_method_13_16) rfl k') ?_
  obtain ⟨cl7_, Ar7_, -, S7_, M7_, Ha7_, -⟩ := id V1
  have hin7_ : ¬ ((1 : Int32) < 0 ∨ cl7_.slots.size ≤ ((1 : Int32)).toNatClampNeg) := inb_of S7_ ⟨by decide, by decide⟩
  refine Runs.st (X0.baloadBytes hx (j := (1 : Int32)) (v := (.int x1)) (by rw [e0]; exact Ar7_.1) (State.isArrayOf_alike hZ.alike Ar7_.2.1) Ar7_.2.2 hin7_ (Ha7_.at hin7_ rfl) (g := (mkF m 17 #[.val (.ref b), .val (.ref d), .val (.int (1 : Int32))] [(.int (1 : Int32)), (.ref b)])) rfl rfl (hb hby d_jdk_43_method_13_17)) ?_
  show Runs p.tables e below _ (s₁.setTop (mkF m 18 #[.val (.ref b), .val (.ref d), .val (.int (1 : Int32))] [(.int x1)]))
  refine Runs.st (fun t' k' => XS.aloadN X0.here hx rfl (hb hby d_jdk_43_method_13_18) rfl rfl k') ?_
  refine Runs.st (fun t' k' => XS.iloadN X0.here hx rfl (hb hby d_jdk_43_method_13_19) rfl k') ?_
  obtain ⟨cl8_, Ar8_, -, S8_, M8_, Ha8_, -⟩ := id V2
  have hin8_ : ¬ ((1 : Int32) < 0 ∨ cl8_.slots.size ≤ ((1 : Int32)).toNatClampNeg) := inb_of S8_ ⟨by decide, by decide⟩
  refine Runs.st (X0.baloadBytes hx (j := (1 : Int32)) (v := (.int (101 : Int32))) (by rw [e0]; exact Ar8_.1) (State.isArrayOf_alike hZ.alike Ar8_.2.1) Ar8_.2.2 hin8_ (Ha8_.at hin8_ rfl) (g := (mkF m 20 #[.val (.ref b), .val (.ref d), .val (.int (1 : Int32))] [(.int (1 : Int32)), (.ref d), (.int x1)])) rfl rfl (hb hby d_jdk_43_method_13_20)) ?_
  show Runs p.tables e below _ (s₁.setTop (mkF m 21 #[.val (.ref b), .val (.ref d), .val (.int (1 : Int32))] [(.int (101 : Int32)), (.int x1)]))
  refine Runs.st (fun t' k' => XS.icmpYes X0.here hx rfl (pc0 := 21) (pc' := 26) rfl (hb hby d_jdk_43_method_13_21) rfl (teq y1).1 (by decide) (by decide) k') ?_
  show Runs p.tables e below _ (s₁.setTop (mkF m 26 #[.val (.ref b), .val (.ref d), .val (.int (1 : Int32))] []))
  refine Runs.st (fun t' k' => XS.iinc X0.here hx rfl (hb hby d_jdk_43_method_13_26) rfl (l' := #[.val (.ref b), .val (.ref d), .val (.int ((1 : Int32) + (1 : Int32)))]) rfl k') ?_
  show Runs p.tables e below _ (s₁.setTop (mkF m 29 #[.val (.ref b), .val (.ref d), .val (.int ((1 : Int32) + (1 : Int32)))] []))
  rw [show ((1 : Int32) + (1 : Int32)) = (2 : Int32) from rfl]
  show Runs p.tables e below _ (s₁.setTop (mkF m 29 #[.val (.ref b), .val (.ref d), .val (.int (2 : Int32))] []))
  refine Runs.st (fun t' k' => XS.goto X0.here hx rfl (pc0 := 29) (pc' := 9) rfl (hb hby d_jdk_43_method_13_29) (by decide) (by decide) k') ?_
  refine Runs.st (fun t' k' => XS.iloadN X0.here hx rfl (hb hby d_jdk_43_method_13_9) rfl k') ?_
  refine Runs.st (fun t' k' => XS.aloadN X0.here hx rfl (hb hby d_jdk_43_method_13_10) rfl rfl k') ?_
  obtain ⟨cl9_, Ar9_, -, S9_, M9_, -, -⟩ := id V1
  refine Runs.st (X0.arraylength hx (by rw [e0]; exact Ar9_.1) (State.isArrayOf_alike hZ.alike Ar9_.2.1) (g := (mkF m 11 #[.val (.ref b), .val (.ref d), .val (.int (2 : Int32))] [(.ref b), (.int (2 : Int32))])) rfl rfl (hb hby d_jdk_43_method_13_11)) ?_
  rw [len_of S9_ M9_]
  show Runs p.tables e below _ (s₁.setTop (mkF m 12 #[.val (.ref b), .val (.ref d), .val (.int (2 : Int32))] [(.int (5 : Int32)), (.int (2 : Int32))]))
  refine Runs.st (fun t' k' => XS.icmpNo X0.here hx rfl (hb hby d_jdk_43_method_13_12) rfl (tlt (by decide)).2.1 k') ?_
  show Runs p.tables e below _ (s₁.setTop (mkF m 15 #[.val (.ref b), .val (.ref d), .val (.int (2 : Int32))] []))
  refine Runs.st (fun t' k' => XS.aloadN X0.here hx rfl (hb hby d_jdk_43_method_13_15) rfl rfl k') ?_
  refine Runs.st (fun t' k' => XS.iloadN X0.here hx rfl (hb hby d_jdk_43_method_13_16) rfl k') ?_
  obtain ⟨cl10_, Ar10_, -, S10_, M10_, Ha10_, -⟩ := id V1
  have hin10_ : ¬ ((2 : Int32) < 0 ∨ cl10_.slots.size ≤ ((2 : Int32)).toNatClampNeg) := inb_of S10_ ⟨by decide, by decide⟩
  refine Runs.st (X0.baloadBytes hx (j := (2 : Int32)) (v := (.int x2)) (by rw [e0]; exact Ar10_.1) (State.isArrayOf_alike hZ.alike Ar10_.2.1) Ar10_.2.2 hin10_ (Ha10_.at hin10_ rfl) (g := (mkF m 17 #[.val (.ref b), .val (.ref d), .val (.int (2 : Int32))] [(.int (2 : Int32)), (.ref b)])) rfl rfl (hb hby d_jdk_43_method_13_17)) ?_
  show Runs p.tables e below _ (s₁.setTop (mkF m 18 #[.val (.ref b), .val (.ref d), .val (.int (2 : Int32))] [(.int x2)]))
  refine Runs.st (fun t' k' => XS.aloadN X0.here hx rfl (hb hby d_jdk_43_method_13_18) rfl rfl k') ?_
  refine Runs.st (fun t' k' => XS.iloadN X0.here hx rfl (hb hby d_jdk_43_method_13_19) rfl k') ?_
  obtain ⟨cl11_, Ar11_, -, S11_, M11_, Ha11_, -⟩ := id V2
  have hin11_ : ¬ ((2 : Int32) < 0 ∨ cl11_.slots.size ≤ ((2 : Int32)).toNatClampNeg) := inb_of S11_ ⟨by decide, by decide⟩
  refine Runs.st (X0.baloadBytes hx (j := (2 : Int32)) (v := (.int (100 : Int32))) (by rw [e0]; exact Ar11_.1) (State.isArrayOf_alike hZ.alike Ar11_.2.1) Ar11_.2.2 hin11_ (Ha11_.at hin11_ rfl) (g := (mkF m 20 #[.val (.ref b), .val (.ref d), .val (.int (2 : Int32))] [(.int (2 : Int32)), (.ref d), (.int x2)])) rfl rfl (hb hby d_jdk_43_method_13_20)) ?_
  show Runs p.tables e below _ (s₁.setTop (mkF m 21 #[.val (.ref b), .val (.ref d), .val (.int (2 : Int32))] [(.int (100 : Int32)), (.int x2)]))
  refine Runs.st (fun t' k' => XS.icmpYes X0.here hx rfl (pc0 := 21) (pc' := 26) rfl (hb hby d_jdk_43_method_13_21) rfl (teq y2).1 (by decide) (by decide) k') ?_
  show Runs p.tables e below _ (s₁.setTop (mkF m 26 #[.val (.ref b), .val (.ref d), .val (.int (2 : Int32))] []))
  refine Runs.st (fun t' k' => XS.iinc X0.here hx rfl (hb hby d_jdk_43_method_13_26) rfl (l' := #[.val (.ref b), .val (.ref d), .val (.int ((2 : Int32) + (1 : Int32)))]) rfl k') ?_
  show Runs p.tables e below _ (s₁.setTop (mkF m 29 #[.val (.ref b), .val (.ref d), .val (.int ((2 : Int32) + (1 : Int32)))] []))
  rw [show ((2 : Int32) + (1 : Int32)) = (3 : Int32) from rfl]
  show Runs p.tables e below _ (s₁.setTop (mkF m 29 #[.val (.ref b), .val (.ref d), .val (.int (3 : Int32))] []))
  refine Runs.st (fun t' k' => XS.goto X0.here hx rfl (pc0 := 29) (pc' := 9) rfl (hb hby d_jdk_43_method_13_29) (by decide) (by decide) k') ?_
  refine Runs.st (fun t' k' => XS.iloadN X0.here hx rfl (hb hby d_jdk_43_method_13_9) rfl k') ?_
  refine Runs.st (fun t' k' => XS.aloadN X0.here hx rfl (hb hby d_jdk_43_method_13_10) rfl rfl k') ?_
  obtain ⟨cl12_, Ar12_, -, S12_, M12_, -, -⟩ := id V1
  refine Runs.st (X0.arraylength hx (by rw [e0]; exact Ar12_.1) (State.isArrayOf_alike hZ.alike Ar12_.2.1) (g := (mkF m 11 #[.val (.ref b), .val (.ref d), .val (.int (3 : Int32))] [(.ref b), (.int (3 : Int32))])) rfl rfl (hb hby d_jdk_43_method_13_11)) ?_
  rw [len_of S12_ M12_]
  show Runs p.tables e below _ (s₁.setTop (mkF m 12 #[.val (.ref b), .val (.ref d), .val (.int (3 : Int32))] [(.int (5 : Int32)), (.int (3 : Int32))]))
  refine Runs.st (fun t' k' => XS.icmpNo X0.here hx rfl (hb hby d_jdk_43_method_13_12) rfl (tlt (by decide)).2.1 k') ?_
  show Runs p.tables e below _ (s₁.setTop (mkF m 15 #[.val (.ref b), .val (.ref d), .val (.int (3 : Int32))] []))
  refine Runs.st (fun t' k' => XS.aloadN X0.here hx rfl (hb hby d_jdk_43_method_13_15) rfl rfl k') ?_
  refine Runs.st (fun t' k' => XS.iloadN X0.here hx rfl (hb hby d_jdk_43_method_13_16) rfl k') ?_
  obtain ⟨cl13_, Ar13_, -, S13_, M13_, Ha13_, -⟩ := id V1
  have hin13_ : ¬ ((3 : Int32) < 0 ∨ cl13_.slots.size ≤ ((3 : Int32)).toNatClampNeg) := inb_of S13_ ⟨by decide, by decide⟩
  refine Runs.st (X0.baloadBytes hx (j := (3 : Int32)) (v := (.int x3)) (by rw [e0]; exact Ar13_.1) (State.isArrayOf_alike hZ.alike Ar13_.2.1) Ar13_.2.2 hin13_ (Ha13_.at hin13_ rfl) (g := (mkF m 17 #[.val (.ref b), .val (.ref d), .val (.int (3 : Int32))] [(.int (3 : Int32)), (.ref b)])) rfl rfl (hb hby d_jdk_43_method_13_17)) ?_
  show Runs p.tables e below _ (s₁.setTop (mkF m 18 #[.val (.ref b), .val (.ref d), .val (.int (3 : Int32))] [(.int x3)]))
  refine Runs.st (fun t' k' => XS.aloadN X0.here hx rfl (hb hby d_jdk_43_method_13_18) rfl rfl k') ?_
  refine Runs.st (fun t' k' => XS.iloadN X0.here hx rfl (hb hby d_jdk_43_method_13_19) rfl k') ?_
  obtain ⟨cl14_, Ar14_, -, S14_, M14_, Ha14_, -⟩ := id V2
  have hin14_ : ¬ ((3 : Int32) < 0 ∨ cl14_.slots.size ≤ ((3 : Int32)).toNatClampNeg) := inb_of S14_ ⟨by decide, by decide⟩
  refine Runs.st (X0.baloadBytes hx (j := (3 : Int32)) (v := (.int (105 : Int32))) (by rw [e0]; exact Ar14_.1) (State.isArrayOf_alike hZ.alike Ar14_.2.1) Ar14_.2.2 hin14_ (Ha14_.at hin14_ rfl) (g := (mkF m 20 #[.val (.ref b), .val (.ref d), .val (.int (3 : Int32))] [(.int (3 : Int32)), (.ref d), (.int x3)])) rfl rfl (hb hby d_jdk_43_method_13_20)) ?_
  show Runs p.tables e below _ (s₁.setTop (mkF m 21 #[.val (.ref b), .val (.ref d), .val (.int (3 : Int32))] [(.int (105 : Int32)), (.int x3)]))
  refine Runs.st (fun t' k' => XS.icmpNo X0.here hx rfl (hb hby d_jdk_43_method_13_21) rfl (feq y3).1 k') ?_
  show Runs p.tables e below _ (s₁.setTop (mkF m 24 #[.val (.ref b), .val (.ref d), .val (.int (3 : Int32))] []))
  refine Runs.st (fun t' k' => XS.iconst X0.here hx rfl (hb hby d_jdk_43_method_13_24) k') ?_
  refine Runs.ret X0 hlk (v := (some (.int (0 : Int32)))) (fun h => by rw [hret] at h; cases h) (by decide) (by decide) ?_ (fun fs hr => retN X0 hx (t := .boolean) hret (by simp) (hb hby d_jdk_43_method_13_25) hr)
  try rw [e0]
  exact ⟨rfl, N0, rfl⟩
def Q_rmS3 (Z : State) (a : Addr) (oo : Addr) (zc : Int32) (b d : Addr) (k1 kv0 : ClassId) (x0 x1 x2 x3 x4 : Int32) (h0 : Heap) (n0 : Nat) : Option Value → Heap → List Loc → Prop := (fun v h L => v = some (.int (0 : Int32)) ∧ Fr n0 L ∧ h = h0)
set_option maxRecDepth 65536 in
set_option maxHeartbeats 40000000 in
theorem rmS3 (l : Launch) (Z : State) (a0 : Array Value) (hw : ∀ d ∈ tables_1, d.before a0 Z = true) (ws : List Jvm.Cond) (a : Addr) (oo : Addr) (zc : Int32) (b d : Addr) (k1 kv0 : ClassId) (x0 x1 x2 x3 x4 : Int32) (h0 : Heap) (n0 : Nat) (Z0 : n0 ≤ h0.size) (hne : a ≠ oo) (Sc : Sta Z h0 "java/lang/String" "COMPACT_STRINGS" "Z" (.int zc)) (hzc : ¬ zc = 0) (Ea : Exa Z h0 a "java/lang/String") (Ca : Fld Z h0 a "java/lang/String" "coder" "B" (.int (0 : Int32))) (Va : Fld Z h0 a "java/lang/String" "value" "[B" (.ref b)) (Eo : Exa Z h0 oo "java/lang/String") (Co : Fld Z h0 oo "java/lang/String" "coder" "B" (.int (0 : Int32))) (Vo : Fld Z h0 oo "java/lang/String" "value" "[B" (.ref d)) (V1 : Arv Z h0 b k1 .byte (5 : Int32) [(.int x0), (.int x1), (.int x2), (.int x3), (.int x4)] (.int (0 : Int32))) (V0 : Arv Z h0 d kv0 .byte (5 : Int32) [(.int (82 : Int32)), (.int (101 : Int32)), (.int (100 : Int32)), (.int (105 : Int32)), (.int (115 : Int32))] (.int (0 : Int32))) (y0 : x0 = (82 : Int32)) (y1 : x1 = (101 : Int32)) (y2 : x2 = (100 : Int32)) (y3 : ¬ x3 = (105 : Int32)) :
    MetFree l (⟨"java/lang/String", "equals", "(Ljava/lang/Object;)Z"⟩ : MethodName) (head1 (Jvm.Cond.code (⟨"java/lang/String", "equals", "(Ljava/lang/Object;)Z"⟩ : MethodName) jdk_42_method_66_code 3 (some .boolean) :: ws) ({ frames := 1, cells := 0, slots := 0, locals := 14 } : Room)) (fun ar_ U => ar_ = #[(.ref a), (.ref oo)] ∧ Z.Warmed39 U.vm ∧ U.heap = h0) (fun _ _ _ _ _ => True) (fun _ U o U' => Phi U (Q_rmS3 Z a oo zc b d k1 kv0 x0 x1 x2 x3 x4 h0 n0) ({ frames := 1, cells := 0, slots := 0, locals := 14 } : Room).cells ({ frames := 1, cells := 0, slots := 0, locals := 14 } : Room).slots o U') := by
  refine MetFree.of_bodySF (plainFor_of_name pn_java_lang_String) hisR ?_
  intro p e s m args below meth c s₁ Bd hml0 hP hK
  obtain ⟨rfl, hZ, hh⟩ := hP
  have hx := Bd.exec
  have hby := Bd.bytes
  have hlk := Bd.notSynchronized
  have hml : c.maxLocals = 3 := hml0
  have hown : s.vm.findClass "java/lang/String" = some m.cls := findClass_of_methodNamed Bd.named
  have hown0 := hown
  have hnm := (name_of_methodNamed Bd.named Bd.method).1
  have hret := Bd.returns
  have X0 : Stand p l e ({ frames := 1, cells := 0, slots := 0, locals := 14 } : Room) s m #[(.ref a), (.ref oo)] below meth c s₁ [] 0 0 := Stand.of_body Bd
  have e0 : s₁.heap = h0 := by rw [← hh, Bd.state]; rfl
  have N0 := Fr.nil n0
  have sz := Z0
  have K := Keep.refl h0 []
  show Runs p.tables e below (Phi s (Q_rmS3 Z a oo zc b d k1 kv0 x0 x1 x2 x3 x4 h0 n0) ({ frames := 1, cells := 0, slots := 0, locals := 14 } : Room).cells ({ frames := 1, cells := 0, slots := 0, locals := 14 } : Room).slots) _
  refine Runs.st (fun t' k' => castTop (ef_jdk_42_method_66_RR m a oo ) k') ?_
  show Runs p.tables e below _ (s₁.setTop (mkF m 0 #[.val (.ref a), .val (.ref oo), .unset] []))
  refine Runs.st (fun t' k' => XS.aloadN X0.here hx rfl (hb hby d_jdk_42_method_66_0) rfl rfl k') ?_
  refine Runs.st (fun t' k' => XS.aloadN X0.here hx rfl (hb hby d_jdk_42_method_66_1) rfl rfl k') ?_
  refine Runs.st (fun t' k' => Jvm.RoadKit.acmp (g := (mkF m 2 #[.val (.ref a), .val (.ref oo), .unset] [(.ref oo), (.ref a)])) X0 hx rfl rfl rfl (pc0 := 2) (pc' := 7) (same := false) rfl (hb hby d_jdk_42_method_66_2) rfl (decide_eq_false fun q => hne (Value.ref.inj q)) (by decide) (by decide) k') ?_
  show Runs p.tables e below _ (s₁.setTop (mkF m 7 #[.val (.ref a), .val (.ref oo), .unset] []))
  refine Runs.st (fun t' k' => XS.aloadN X0.here hx rfl (hb hby d_jdk_42_method_66_7) rfl rfl k') ?_
  obtain ⟨T1_, X1_, e1_, st1_⟩ := instY X0 hx hZ hown (hw _ (List.mem_of_getElem? (i := 77) rfl)) e0 (Ins.self Eo) (g := (mkF m 8 #[.val (.ref a), .val (.ref oo), .unset] [(.ref oo)])) rfl rfl (hb hby d_jdk_42_method_66_8)
  refine Runs.st (st1_) ?_
  show Runs p.tables e below _ (T1_.setTop (mkF m 11 #[.val (.ref a), .val (.ref oo), .unset] [(.int (1 : Int32))]))
  refine Runs.st (fun t' k' => XS.ifNo X1_.here hx rfl (hb hby d_jdk_42_method_66_11) rfl ((if0 _ _).trans (feq (by decide)).1) k') ?_
  show Runs p.tables e below _ (T1_.setTop (mkF m 14 #[.val (.ref a), .val (.ref oo), .unset] []))
  refine Runs.st (fun t' k' => XS.aloadN X1_.here hx rfl (hb hby d_jdk_42_method_66_14) rfl rfl k') ?_
  obtain ⟨T2_, X2_, e2_, st2_⟩ := castY X1_ hx hZ hown (hw _ (List.mem_of_getElem? (i := 77) rfl)) e1_ (Ins.self Eo) (g := (mkF m 15 #[.val (.ref a), .val (.ref oo), .unset] [(.ref oo)])) rfl rfl (hb hby d_jdk_42_method_66_15)
  refine Runs.st (st2_) ?_
  show Runs p.tables e below _ (T2_.setTop (mkF m 18 #[.val (.ref a), .val (.ref oo), .unset] [(.ref oo)]))
  refine Runs.st (fun t' k' => XS.astoreN X2_.here hx rfl (hb hby d_jdk_42_method_66_18) rfl rfl (l' := #[.val (.ref a), .val (.ref oo), .val (.ref oo)]) rfl k') ?_
  obtain ⟨T3_, X3_, e3_, st3_⟩ := getS2 X2_ hx hZ hown (host := "") (Or.inl (hw _ (List.mem_of_getElem? (i := 15) rfl))) Via.refl e2_ Sc (g := (mkF m 19 #[.val (.ref a), .val (.ref oo), .val (.ref oo)] [])) rfl (hb hby d_jdk_42_method_66_19)
  refine Runs.st (st3_) ?_
  show Runs p.tables e below _ (T3_.setTop (mkF m 22 #[.val (.ref a), .val (.ref oo), .val (.ref oo)] [(.int zc)]))
  refine Runs.st (fun t' k' => XS.ifNo X3_.here hx rfl (hb hby d_jdk_42_method_66_22) rfl ((if0 _ _).trans (feq hzc).1) k') ?_
  show Runs p.tables e below _ (T3_.setTop (mkF m 25 #[.val (.ref a), .val (.ref oo), .val (.ref oo)] []))
  refine Runs.st (fun t' k' => XS.aloadN X3_.here hx rfl (hb hby d_jdk_42_method_66_25) rfl rfl k') ?_
  obtain ⟨T4_, X4_, e4_, st4_⟩ := getF X3_ hx hZ hown (host := "") (Or.inl (hw _ (List.mem_of_getElem? (i := 27) rfl))) Via.refl e3_ Ca (g := (mkF m 26 #[.val (.ref a), .val (.ref oo), .val (.ref oo)] [(.ref a)])) rfl rfl (hb hby d_jdk_42_method_66_26)
  refine Runs.st (st4_) ?_
  show Runs p.tables e below _ (T4_.setTop (mkF m 29 #[.val (.ref a), .val (.ref oo), .val (.ref oo)] [(.int (0 : Int32))]))
  refine Runs.st (fun t' k' => XS.aloadN X4_.here hx rfl (hb hby d_jdk_42_method_66_29) rfl rfl k') ?_
  obtain ⟨T5_, X5_, e5_, st5_⟩ := getF X4_ hx hZ hown (host := "") (Or.inl (hw _ (List.mem_of_getElem? (i := 27) rfl))) Via.refl e4_ Co (g := (mkF m 30 #[.val (.ref a), .val (.ref oo), .val (.ref oo)] [(.ref oo), (.int (0 : Int32))])) rfl rfl (hb hby d_jdk_42_method_66_30)
  refine Runs.st (st5_) ?_
  show Runs p.tables e below _ (T5_.setTop (mkF m 33 #[.val (.ref a), .val (.ref oo), .val (.ref oo)] [(.int (0 : Int32)), (.int (0 : Int32))]))
  refine Runs.st (fun t' k' => XS.icmpNo X5_.here hx rfl (hb hby d_jdk_42_method_66_33) rfl (teq rfl).2 k') ?_
  show Runs p.tables e below _ (T5_.setTop (mkF m 36 #[.val (.ref a), .val (.ref oo), .val (.ref oo)] []))
  refine Runs.st (fun t' k' => XS.aloadN X5_.here hx rfl (hb hby d_jdk_42_method_66_36) rfl rfl k') ?_
  obtain ⟨T6_, X6_, e6_, st6_⟩ := getF X5_ hx hZ hown (host := "") (Or.inl (hw _ (List.mem_of_getElem? (i := 29) rfl))) Via.refl e5_ Va (g := (mkF m 37 #[.val (.ref a), .val (.ref oo), .val (.ref oo)] [(.ref a)])) rfl rfl (hb hby d_jdk_42_method_66_37)
  refine Runs.st (st6_) ?_
  show Runs p.tables e below _ (T6_.setTop (mkF m 40 #[.val (.ref a), .val (.ref oo), .val (.ref oo)] [(.ref b)]))
  refine Runs.st (fun t' k' => XS.aloadN X6_.here hx rfl (hb hby d_jdk_42_method_66_40) rfl rfl k') ?_
  obtain ⟨T7_, X7_, e7_, st7_⟩ := getF X6_ hx hZ hown (host := "") (Or.inl (hw _ (List.mem_of_getElem? (i := 29) rfl))) Via.refl e6_ Vo (g := (mkF m 41 #[.val (.ref a), .val (.ref oo), .val (.ref oo)] [(.ref oo), (.ref b)])) rfl rfl (hb hby d_jdk_42_method_66_41)
  refine Runs.st (st7_) ?_
  show Runs p.tables e below _ (T7_.setTop (mkF m 44 #[.val (.ref a), .val (.ref oo), .val (.ref oo)] [(.ref d), (.ref b)]))
  obtain ⟨_, _, ⟨T8_, L8_, k8_, n8_⟩, -, X8_, ⟨Lc8_, hQ8_, l8_, y8_, z8_⟩, st8_⟩ := Jvm.LawKit.callS X7_ hx (y := (⟨"java/lang/StringLatin1", "equals", "([B[B)Z"⟩ : MethodName)) hown (mvT hZ (hw _ (List.mem_of_getElem? (i := 78) rfl))) (mvT hZ (hw _ (List.mem_of_getElem? (i := 79) rfl))) (mvT hZ (hw _ (List.mem_of_getElem? (i := 53) rfl))) (mvT hZ (hw _ (List.mem_of_getElem? (i := 80) rfl))) (by decide) (backOf (W := 0) (rmL3 l Z a0 hw [] b d k1 kv0 x0 x1 x2 x3 x4 h0 n0 sz V1 V0 y0 y1 y2 y3) hZ (hw _ (List.mem_of_getElem? (i := 80) rfl)) (hw _ (List.mem_of_getElem? (i := 53) rfl)) (by decide) (by decide)) (g := (mkF m 44 #[.val (.ref a), .val (.ref oo), .val (.ref oo)] [(.ref d), (.ref b)])) rfl (by rw [hml]; rfl) (argsL := [(.ref b), (.ref d)]) (rest := []) (lenOf pd__28_5bB_5bB_29Z rfl) rfl (by show 2 * 0 + _ ≤ _; exact Nat.le_of_eq rfl) (hb hby d_jdk_42_method_66_44) (fun _ _ => ⟨rfl, e7_, (by decide : 0 + 0 ≤ _), (by decide : 0 + 0 ≤ _)⟩)
  dsimp only [Pt.U, Pt.locs, Pt.cells, Pt.slots] at X8_ l8_ y8_ z8_ st8_ hQ8_
  subst l8_ y8_ z8_
  obtain ⟨rfl, N8_q, e8_⟩ := hQ8_
  have N8_ := Fr.app N0 N8_q
  refine Runs.st (st8_) ?_
  replace X8_ := wider X8_ (c' := 0) (s' := 0) (by decide) (by decide)
  show Runs p.tables e below _ (T8_.setTop (mkF m 47 #[.val (.ref a), .val (.ref oo), .val (.ref oo)] [(.int (0 : Int32))]))
  refine Runs.st (fun t' k' => XS.ifYes X8_.here hx rfl (pc0 := 47) (pc' := 54) rfl (hb hby d_jdk_42_method_66_47) rfl ((if0 _ _).trans (teq rfl).1) (by decide) (by decide) k') ?_
  show Runs p.tables e below _ (T8_.setTop (mkF m 54 #[.val (.ref a), .val (.ref oo), .val (.ref oo)] []))
  refine Runs.st (fun t' k' => XS.iconst X8_.here hx rfl (hb hby d_jdk_42_method_66_54) k') ?_
  refine Runs.ret X8_ hlk (v := (some (.int (0 : Int32)))) (fun h => by rw [hret] at h; cases h) (by decide) (by decide) ?_ (fun fs hr => retN X8_ hx (t := .boolean) hret (by simp) (hb hby d_jdk_42_method_66_55) hr)
  try rw [e8_]
  exact ⟨rfl, N8_, rfl⟩
def Q_rmL4 (Z : State) (b : Addr) (d : Addr) (k1 k2 : ClassId) (x0 x1 x2 x3 x4 : Int32) (h0 : Heap) (n0 : Nat) : Option Value → Heap → List Loc → Prop := (fun v h L => v = some (.int (0 : Int32)) ∧ Fr n0 L ∧ h = h0)
set_option maxRecDepth 65536 in
set_option maxHeartbeats 40000000 in
theorem rmL4 (l : Launch) (Z : State) (a0 : Array Value) (hw : ∀ d ∈ tables_1, d.before a0 Z = true) (ws : List Jvm.Cond) (b : Addr) (d : Addr) (k1 k2 : ClassId) (x0 x1 x2 x3 x4 : Int32) (h0 : Heap) (n0 : Nat) (Z0 : n0 ≤ h0.size) (V1 : Arv Z h0 b k1 .byte (5 : Int32) [(.int x0), (.int x1), (.int x2), (.int x3), (.int x4)] (.int (0 : Int32))) (V2 : Arv Z h0 d k2 .byte (5 : Int32) [(.int (82 : Int32)), (.int (101 : Int32)), (.int (100 : Int32)), (.int (105 : Int32)), (.int (115 : Int32))] (.int (0 : Int32))) (y0 : x0 = (82 : Int32)) (y1 : x1 = (101 : Int32)) (y2 : x2 = (100 : Int32)) (y3 : x3 = (105 : Int32)) (y4 : ¬ x4 = (115 : Int32)) :
    MetFree l (⟨"java/lang/StringLatin1", "equals", "([B[B)Z"⟩ : MethodName) (head1 (Jvm.Cond.code (⟨"java/lang/StringLatin1", "equals", "([B[B)Z"⟩ : MethodName) jdk_43_method_13_code 3 (some .boolean) :: ws) ({ frames := 0, cells := 0, slots := 0, locals := 0 } : Room)) (fun ar_ U => ar_ = #[(.ref b), (.ref d)] ∧ Z.Warmed39 U.vm ∧ U.heap = h0) (fun _ _ _ _ _ => True) (fun _ U o U' => Phi U (Q_rmL4 Z b d k1 k2 x0 x1 x2 x3 x4 h0 n0) ({ frames := 0, cells := 0, slots := 0, locals := 0 } : Room).cells ({ frames := 0, cells := 0, slots := 0, locals := 0 } : Room).slots o U') := by
  refine MetFree.of_bodySF (plainFor_of_name pn_java_lang_StringLatin1) hisR ?_
  intro p e s m args below meth c s₁ Bd hml0 hP hK
  obtain ⟨rfl, hZ, hh⟩ := hP
  have hx := Bd.exec
  have hby := Bd.bytes
  have hlk := Bd.notSynchronized
  have hml : c.maxLocals = 3 := hml0
  have hown : s.vm.findClass "java/lang/StringLatin1" = some m.cls := findClass_of_methodNamed Bd.named
  have hown0 := hown
  have hnm := (name_of_methodNamed Bd.named Bd.method).1
  have hret := Bd.returns
  have X0 : Stand p l e ({ frames := 0, cells := 0, slots := 0, locals := 0 } : Room) s m #[(.ref b), (.ref d)] below meth c s₁ [] 0 0 := Stand.of_body Bd
  have e0 : s₁.heap = h0 := by rw [← hh, Bd.state]; rfl
  have N0 := Fr.nil n0
  have sz := Z0
  have K := Keep.refl h0 []
  show Runs p.tables e below (Phi s (Q_rmL4 Z b d k1 k2 x0 x1 x2 x3 x4 h0 n0) ({ frames := 0, cells := 0, slots := 0, locals := 0 } : Room).cells ({ frames := 0, cells := 0, slots := 0, locals := 0 } : Room).slots) _
  refine Runs.st (fun t' k' => castTop (ef_jdk_43_method_13_RR m b d ) k') ?_
  show Runs p.tables e below _ (s₁.setTop (mkF m 0 #[.val (.ref b), .val (.ref d), .unset] []))
  refine Runs.st (fun t' k' => XS.aloadN X0.here hx rfl (hb hby d_jdk_43_method_13_0) rfl rfl k') ?_
  obtain ⟨cl1_, Ar1_, -, S1_, M1_, -, -⟩ := id V1
  refine Runs.st (X0.arraylength hx (by rw [e0]; exact Ar1_.1) (State.isArrayOf_alike hZ.alike Ar1_.2.1) (g := (mkF m 1 #[.val (.ref b), .val (.ref d), .unset] [(.ref b)])) rfl rfl (hb hby d_jdk_43_method_13_1)) ?_
  rw [len_of S1_ M1_]
  show Runs p.tables e below _ (s₁.setTop (mkF m 2 #[.val (.ref b), .val (.ref d), .unset] [(.int (5 : Int32))]))
  refine Runs.st (fun t' k' => XS.aloadN X0.here hx rfl (hb hby d_jdk_43_method_13_2) rfl rfl k') ?_
  obtain ⟨cl2_, Ar2_, -, S2_, M2_, -, -⟩ := id V2
  refine Runs.st (X0.arraylength hx (by rw [e0]; exact Ar2_.1) (State.isArrayOf_alike hZ.alike Ar2_.2.1) (g := (mkF m 3 #[.val (.ref b), .val (.ref d), .unset] [(.ref d), (.int (5 : Int32))])) rfl rfl (hb hby d_jdk_43_method_13_3)) ?_
  rw [len_of S2_ M2_]
  show Runs p.tables e below _ (s₁.setTop (mkF m 4 #[.val (.ref b), .val (.ref d), .unset] [(.int (5 : Int32)), (.int (5 : Int32))]))
  refine Runs.st (fun t' k' => XS.icmpNo X0.here hx rfl (hb hby d_jdk_43_method_13_4) rfl (teq rfl).2 k') ?_
  show Runs p.tables e below _ (s₁.setTop (mkF m 7 #[.val (.ref b), .val (.ref d), .unset] []))
  refine Runs.st (fun t' k' => XS.iconst X0.here hx rfl (hb hby d_jdk_43_method_13_7) k') ?_
  refine Runs.st (fun t' k' => XS.istoreN X0.here hx rfl (hb hby d_jdk_43_method_13_8) rfl (l' := #[.val (.ref b), .val (.ref d), .val (.int (0 : Int32))]) rfl k') ?_
  refine Runs.st (fun t' k' => XS.iloadN X0.here hx rfl (hb hby d_jdk_43_method_13_9) rfl k') ?_
  refine Runs.st (fun t' k' => XS.aloadN X0.here hx rfl (hb hby d_jdk_43_method_13_10) rfl rfl k') ?_
  obtain ⟨cl3_, Ar3_, -, S3_, M3_, -, -⟩ := id V1
  refine Runs.st (X0.arraylength hx (by rw [e0]; exact Ar3_.1) (State.isArrayOf_alike hZ.alike Ar3_.2.1) (g := (mkF m 11 #[.val (.ref b), .val (.ref d), .val (.int (0 : Int32))] [(.ref b), (.int (0 : Int32))])) rfl rfl (hb hby d_jdk_43_method_13_11)) ?_
  rw [len_of S3_ M3_]
  show Runs p.tables e below _ (s₁.setTop (mkF m 12 #[.val (.ref b), .val (.ref d), .val (.int (0 : Int32))] [(.int (5 : Int32)), (.int (0 : Int32))]))
  refine Runs.st (fun t' k' => XS.icmpNo X0.here hx rfl (hb hby d_jdk_43_method_13_12) rfl (tlt (by decide)).2.1 k') ?_
  show Runs p.tables e below _ (s₁.setTop (mkF m 15 #[.val (.ref b), .val (.ref d), .val (.int (0 : Int32))] []))
  refine Runs.st (fun t' k' => XS.aloadN X0.here hx rfl (hb hby d_jdk_43_method_13_15) rfl rfl k') ?_
  refine Runs.st (fun t' k' => XS.iloadN X0.here hx rfl (hb hby d_jdk_43_method_13_16) rfl k') ?_
  obtain ⟨cl4_, Ar4_, -, S4_, M4_, Ha4_, -⟩ := id V1
  have hin4_ : ¬ ((0 : Int32) < 0 ∨ cl4_.slots.size ≤ ((0 : Int32)).toNatClampNeg) := inb_of S4_ ⟨by decide, by decide⟩
  refine Runs.st (X0.baloadBytes hx (j := (0 : Int32)) (v := (.int x0)) (by rw [e0]; exact Ar4_.1) (State.isArrayOf_alike hZ.alike Ar4_.2.1) Ar4_.2.2 hin4_ (Ha4_.at hin4_ rfl) (g := (mkF m 17 #[.val (.ref b), .val (.ref d), .val (.int (0 : Int32))] [(.int (0 : Int32)), (.ref b)])) rfl rfl (hb hby d_jdk_43_method_13_17)) ?_
  show Runs p.tables e below _ (s₁.setTop (mkF m 18 #[.val (.ref b), .val (.ref d), .val (.int (0 : Int32))] [(.int x0)]))
  refine Runs.st (fun t' k' => XS.aloadN X0.here hx rfl (hb hby d_jdk_43_method_13_18) rfl rfl k') ?_
  refine Runs.st (fun t' k' => XS.iloadN X0.here hx rfl (hb hby d_jdk_43_method_13_19) rfl k') ?_
  obtain ⟨cl5_, Ar5_, -, S5_, M5_, Ha5_, -⟩ := id V2
  have hin5_ : ¬ ((0 : Int32) < 0 ∨ cl5_.slots.size ≤ ((0 : Int32)).toNatClampNeg) := inb_of S5_ ⟨by decide, by decide⟩
  refine Runs.st (X0.baloadBytes hx (j := (0 : Int32)) (v := (.int (82 : Int32))) (by rw [e0]; exact Ar5_.1) (State.isArrayOf_alike hZ.alike Ar5_.2.1) Ar5_.2.2 hin5_ (Ha5_.at hin5_ rfl) (g := (mkF m 20 #[.val (.ref b), .val (.ref d), .val (.int (0 : Int32))] [(.int (0 : Int32)), (.ref d), (.int x0)])) rfl rfl (hb hby d_jdk_43_method_13_20)) ?_
  show Runs p.tables e below _ (s₁.setTop (mkF m 21 #[.val (.ref b), .val (.ref d), .val (.int (0 : Int32))] [(.int (82 : Int32)), (.int x0)]))
  refine Runs.st (fun t' k' => XS.icmpYes X0.here hx rfl (pc0 := 21) (pc' := 26) rfl (hb hby d_jdk_43_method_13_21) rfl (teq y0).1 (by decide) (by decide) k') ?_
  show Runs p.tables e below _ (s₁.setTop (mkF m 26 #[.val (.ref b), .val (.ref d), .val (.int (0 : Int32))] []))
  refine Runs.st (fun t' k' => XS.iinc X0.here hx rfl (hb hby d_jdk_43_method_13_26) rfl (l' := #[.val (.ref b), .val (.ref d), .val (.int ((0 : Int32) + (1 : Int32)))]) rfl k') ?_
  show Runs p.tables e below _ (s₁.setTop (mkF m 29 #[.val (.ref b), .val (.ref d), .val (.int ((0 : Int32) + (1 : Int32)))] []))
  rw [show ((0 : Int32) + (1 : Int32)) = (1 : Int32) from rfl]
  show Runs p.tables e below _ (s₁.setTop (mkF m 29 #[.val (.ref b), .val (.ref d), .val (.int (1 : Int32))] []))
  refine Runs.st (fun t' k' => XS.goto X0.here hx rfl (pc0 := 29) (pc' := 9) rfl (hb hby d_jdk_43_method_13_29) (by decide) (by decide) k') ?_
  refine Runs.st (fun t' k' => XS.iloadN X0.here hx rfl (hb hby d_jdk_43_method_13_9) rfl k') ?_
  refine Runs.st (fun t' k' => XS.aloadN X0.here hx rfl (hb hby d_jdk_43_method_13_10) rfl rfl k') ?_
  obtain ⟨cl6_, Ar6_, -, S6_, M6_, -, -⟩ := id V1
  refine Runs.st (X0.arraylength hx (by rw [e0]; exact Ar6_.1) (State.isArrayOf_alike hZ.alike Ar6_.2.1) (g := (mkF m 11 #[.val (.ref b), .val (.ref d), .val (.int (1 : Int32))] [(.ref b), (.int (1 : Int32))])) rfl rfl (hb hby d_jdk_43_method_13_11)) ?_
  rw [len_of S6_ M6_]
  show Runs p.tables e below _ (s₁.setTop (mkF m 12 #[.val (.ref b), .val (.ref d), .val (.int (1 : Int32))] [(.int (5 : Int32)), (.int (1 : Int32))]))
  refine Runs.st (fun t' k' => XS.icmpNo X0.here hx rfl (hb hby d_jdk_43_method_13_12) rfl (tlt (by decide)).2.1 k') ?_
  show Runs p.tables e below _ (s₁.setTop (mkF m 15 #[.val (.ref b), .val (.ref d), .val (.int (1 : Int32))] []))
  refine Runs.st (fun t' k' => XS.aloadN X0.here hx rfl (hb hby d_jdk_43_method_13_15) rfl rfl k') ?_
  refine Runs.st (fun t' k' => XS.iloadN X0.here hx rfl (hb hby d_jdk_43_method_13_16) rfl k') ?_
  obtain ⟨cl7_, Ar7_, -, S7_, M7_, Ha7_, -⟩ := id V1
  have hin7_ : ¬ ((1 : Int32) < 0 ∨ cl7_.slots.size ≤ ((1 : Int32)).toNatClampNeg) := inb_of S7_ ⟨by decide, by decide⟩
  refine Runs.st (X0.baloadBytes hx (j := (1 : Int32)) (v := (.int x1)) (by rw [e0]; exact Ar7_.1) (State.isArrayOf_alike hZ.alike Ar7_.2.1) Ar7_.2.2 hin7_ (Ha7_.at hin7_ rfl) (g := (mkF m 17 #[.val (.ref b), .val (.ref d), .val (.int (1 : Int32))] [(.int (1 : Int32)), (.ref b)])) rfl rfl (hb hby d_jdk_43_method_13_17)) ?_
  show Runs p.tables e below _ (s₁.setTop (mkF m 18 #[.val (.ref b), .val (.ref d), .val (.int (1 : Int32))] [(.int x1)]))
  refine Runs.st (fun t' k' => XS.aloadN X0.here hx rfl (hb hby d_jdk_43_method_13_18) rfl rfl k') ?_
  refine Runs.st (fun t' k' => XS.iloadN X0.here hx rfl (hb hby d_jdk_43_method_13_19) rfl k') ?_
  obtain ⟨cl8_, Ar8_, -, S8_, M8_, Ha8_, -⟩ := id V2
  have hin8_ : ¬ ((1 : Int32) < 0 ∨ cl8_.slots.size ≤ ((1 : Int32)).toNatClampNeg) := inb_of S8_ ⟨by decide, by decide⟩
  refine Runs.st (X0.baloadBytes hx (j := (1 : Int32)) (v := (.int (101 : Int32))) (by rw [e0]; exact Ar8_.1) (State.isArrayOf_alike hZ.alike Ar8_.2.1) Ar8_.2.2 hin8_ (Ha8_.at hin8_ rfl) (g := (mkF m 20 #[.val (.ref b), .val (.ref d), .val (.int (1 : Int32))] [(.int (1 : Int32)), (.ref d), (.int x1)])) rfl rfl (hb hby d_jdk_43_method_13_20)) ?_
  show Runs p.tables e below _ (s₁.setTop (mkF m 21 #[.val (.ref b), .val (.ref d), .val (.int (1 : Int32))] [(.int (101 : Int32)), (.int x1)]))
  refine Runs.st (fun t' k' => XS.icmpYes X0.here hx rfl (pc0 := 21) (pc' := 26) rfl (hb hby d_jdk_43_method_13_21) rfl (teq y1).1 (by decide) (by decide) k') ?_
  show Runs p.tables e below _ (s₁.setTop (mkF m 26 #[.val (.ref b), .val (.ref d), .val (.int (1 : Int32))] []))
  refine Runs.st (fun t' k' => XS.iinc X0.here hx rfl (hb hby d_jdk_43_method_13_26) rfl (l' := #[.val (.ref b), .val (.ref d), .val (.int ((1 : Int32) + (1 : Int32)))]) rfl k') ?_
  show Runs p.tables e below _ (s₁.setTop (mkF m 29 #[.val (.ref b), .val (.ref d), .val (.int ((1 : Int32) + (1 : Int32)))] []))
  rw [show ((1 : Int32) + (1 : Int32)) = (2 : Int32) from rfl]
  show Runs p.tables e below _ (s₁.setTop (mkF m 29 #[.val (.ref b), .val (.ref d), .val (.int (2 : Int32))] []))
  refine Runs.st (fun t' k' => XS.goto X0.here hx rfl (pc0 := 29) (pc' := 9) rfl (hb hby d_jdk_43_method_13_29) (by decide) (by decide) k') ?_
  refine Runs.st (fun t' k' => XS.iloadN X0.here hx rfl (hb hby d_jdk_43_method_13_9) rfl k') ?_
  refine Runs.st (fun t' k' => XS.aloadN X0.here hx rfl (hb hby d_jdk_43_method_13_10) rfl rfl k') ?_
  obtain ⟨cl9_, Ar9_, -, S9_, M9_, -, -⟩ := id V1
  refine Runs.st (X0.arraylength hx (by rw [e0]; exact Ar9_.1) (State.isArrayOf_alike hZ.alike Ar9_.2.1) (g := (mkF m 11 #[.val (.ref b), .val (.ref d), .val (.int (2 : Int32))] [(.ref b), (.int (2 : Int32))])) rfl rfl (hb hby d_jdk_43_method_13_11)) ?_
  rw [len_of S9_ M9_]
  show Runs p.tables e below _ (s₁.setTop (mkF m 12 #[.val (.ref b), .val (.ref d), .val (.int (2 : Int32))] [(.int (5 : Int32)), (.int (2 : Int32))]))
  refine Runs.st (fun t' k' => XS.icmpNo X0.here hx rfl (hb hby d_jdk_43_method_13_12) rfl (tlt (by decide)).2.1 k') ?_
  show Runs p.tables e below _ (s₁.setTop (mkF m 15 #[.val (.ref b), .val (.ref d), .val (.int (2 : Int32))] []))
  refine Runs.st (fun t' k' => XS.aloadN X0.here hx rfl (hb hby d_jdk_43_method_13_15) rfl rfl k') ?_
  refine Runs.st (fun t' k' => XS.iloadN X0.here hx rfl (hb hby d_jdk_43_method_13_16) rfl k') ?_
  obtain ⟨cl10_, Ar10_, -, S10_, M10_, Ha10_, -⟩ := id V1
  have hin10_ : ¬ ((2 : Int32) < 0 ∨ cl10_.slots.size ≤ ((2 : Int32)).toNatClampNeg) := inb_of S10_ ⟨by decide, by decide⟩
  refine Runs.st (X0.baloadBytes hx (j := (2 : Int32)) (v := (.int x2)) (by rw [e0]; exact Ar10_.1) (State.isArrayOf_alike hZ.alike Ar10_.2.1) Ar10_.2.2 hin10_ (Ha10_.at hin10_ rfl) (g := (mkF m 17 #[.val (.ref b), .val (.ref d), .val (.int (2 : Int32))] [(.int (2 : Int32)), (.ref b)])) rfl rfl (hb hby d_jdk_43_method_13_17)) ?_
  show Runs p.tables e below _ (s₁.setTop (mkF m 18 #[.val (.ref b), .val (.ref d), .val (.int (2 : Int32))] [(.int x2)]))
  refine Runs.st (fun t' k' => XS.aloadN X0.here hx rfl (hb hby d_jdk_43_method_13_18) rfl rfl k') ?_
  refine Runs.st (fun t' k' => XS.iloadN X0.here hx rfl (hb hby d_jdk_43_method_13_19) rfl k') ?_
  obtain ⟨cl11_, Ar11_, -, S11_, M11_, Ha11_, -⟩ := id V2
  have hin11_ : ¬ ((2 : Int32) < 0 ∨ cl11_.slots.size ≤ ((2 : Int32)).toNatClampNeg) := inb_of S11_ ⟨by decide, by decide⟩
  refine Runs.st (X0.baloadBytes hx (j := (2 : Int32)) (v := (.int (100 : Int32))) (by rw [e0]; exact Ar11_.1) (State.isArrayOf_alike hZ.alike Ar11_.2.1) Ar11_.2.2 hin11_ (Ha11_.at hin11_ rfl) (g := (mkF m 20 #[.val (.ref b), .val (.ref d), .val (.int (2 : Int32))] [(.int (2 : Int32)), (.ref d), (.int x2)])) rfl rfl (hb hby d_jdk_43_method_13_20)) ?_
  show Runs p.tables e below _ (s₁.setTop (mkF m 21 #[.val (.ref b), .val (.ref d), .val (.int (2 : Int32))] [(.int (100 : Int32)), (.int x2)]))
  refine Runs.st (fun t' k' => XS.icmpYes X0.here hx rfl (pc0 := 21) (pc' := 26) rfl (hb hby d_jdk_43_method_13_21) rfl (teq y2).1 (by decide) (by decide) k') ?_
  show Runs p.tables e below _ (s₁.setTop (mkF m 26 #[.val (.ref b), .val (.ref d), .val (.int (2 : Int32))] []))
  refine Runs.st (fun t' k' => XS.iinc X0.here hx rfl (hb hby d_jdk_43_method_13_26) rfl (l' := #[.val (.ref b), .val (.ref d), .val (.int ((2 : Int32) + (1 : Int32)))]) rfl k') ?_
  show Runs p.tables e below _ (s₁.setTop (mkF m 29 #[.val (.ref b), .val (.ref d), .val (.int ((2 : Int32) + (1 : Int32)))] []))
  rw [show ((2 : Int32) + (1 : Int32)) = (3 : Int32) from rfl]
  show Runs p.tables e below _ (s₁.setTop (mkF m 29 #[.val (.ref b), .val (.ref d), .val (.int (3 : Int32))] []))
  refine Runs.st (fun t' k' => XS.goto X0.here hx rfl (pc0 := 29) (pc' := 9) rfl (hb hby d_jdk_43_method_13_29) (by decide) (by decide) k') ?_
  refine Runs.st (fun t' k' => XS.iloadN X0.here hx rfl (hb hby d_jdk_43_method_13_9) rfl k') ?_
  refine Runs.st (fun t' k' => XS.aloadN X0.here hx rfl (hb hby d_jdk_43_method_13_10) rfl rfl k') ?_
  obtain ⟨cl12_, Ar12_, -, S12_, M12_, -, -⟩ := id V1
  refine Runs.st (X0.arraylength hx (by rw [e0]; exact Ar12_.1) (State.isArrayOf_alike hZ.alike Ar12_.2.1) (g := (mkF m 11 #[.val (.ref b), .val (.ref d), .val (.int (3 : Int32))] [(.ref b), (.int (3 : Int32))])) rfl rfl (hb hby d_jdk_43_method_13_11)) ?_
  rw [len_of S12_ M12_]
  show Runs p.tables e below _ (s₁.setTop (mkF m 12 #[.val (.ref b), .val (.ref d), .val (.int (3 : Int32))] [(.int (5 : Int32)), (.int (3 : Int32))]))
  refine Runs.st (fun t' k' => XS.icmpNo X0.here hx rfl (hb hby d_jdk_43_method_13_12) rfl (tlt (by decide)).2.1 k') ?_
  show Runs p.tables e below _ (s₁.setTop (mkF m 15 #[.val (.ref b), .val (.ref d), .val (.int (3 : Int32))] []))
  refine Runs.st (fun t' k' => XS.aloadN X0.here hx rfl (hb hby d_jdk_43_method_13_15) rfl rfl k') ?_
  refine Runs.st (fun t' k' => XS.iloadN X0.here hx rfl (hb hby d_jdk_43_method_13_16) rfl k') ?_
  obtain ⟨cl13_, Ar13_, -, S13_, M13_, Ha13_, -⟩ := id V1
  have hin13_ : ¬ ((3 : Int32) < 0 ∨ cl13_.slots.size ≤ ((3 : Int32)).toNatClampNeg) := inb_of S13_ ⟨by decide, by decide⟩
  refine Runs.st (X0.baloadBytes hx (j := (3 : Int32)) (v := (.int x3)) (by rw [e0]; exact Ar13_.1) (State.isArrayOf_alike hZ.alike Ar13_.2.1) Ar13_.2.2 hin13_ (Ha13_.at hin13_ rfl) (g := (mkF m 17 #[.val (.ref b), .val (.ref d), .val (.int (3 : Int32))] [(.int (3 : Int32)), (.ref b)])) rfl rfl (hb hby d_jdk_43_method_13_17)) ?_
  show Runs p.tables e below _ (s₁.setTop (mkF m 18 #[.val (.ref b), .val (.ref d), .val (.int (3 : Int32))] [(.int x3)]))
  refine Runs.st (fun t' k' => XS.aloadN X0.here hx rfl (hb hby d_jdk_43_method_13_18) rfl rfl k') ?_
  refine Runs.st (fun t' k' => XS.iloadN X0.here hx rfl (hb hby d_jdk_43_method_13_19) rfl k') ?_
  obtain ⟨cl14_, Ar14_, -, S14_, M14_, Ha14_, -⟩ := id V2
  have hin14_ : ¬ ((3 : Int32) < 0 ∨ cl14_.slots.size ≤ ((3 : Int32)).toNatClampNeg) := inb_of S14_ ⟨by decide, by decide⟩
  refine Runs.st (X0.baloadBytes hx (j := (3 : Int32)) (v := (.int (105 : Int32))) (by rw [e0]; exact Ar14_.1) (State.isArrayOf_alike hZ.alike Ar14_.2.1) Ar14_.2.2 hin14_ (Ha14_.at hin14_ rfl) (g := (mkF m 20 #[.val (.ref b), .val (.ref d), .val (.int (3 : Int32))] [(.int (3 : Int32)), (.ref d), (.int x3)])) rfl rfl (hb hby d_jdk_43_method_13_20)) ?_
  show Runs p.tables e below _ (s₁.setTop (mkF m 21 #[.val (.ref b), .val (.ref d), .val (.int (3 : Int32))] [(.int (105 : Int32)), (.int x3)]))
  refine Runs.st (fun t' k' => XS.icmpYes X0.here hx rfl (pc0 := 21) (pc' := 26) rfl (hb hby d_jdk_43_method_13_21) rfl (teq y3).1 (by decide) (by decide) k') ?_
  show Runs p.tables e below _ (s₁.setTop (mkF m 26 #[.val (.ref b), .val (.ref d), .val (.int (3 : Int32))] []))
  refine Runs.st (fun t' k' => XS.iinc X0.here hx rfl (hb hby d_jdk_43_method_13_26) rfl (l' := #[.val (.ref b), .val (.ref d), .val (.int ((3 : Int32) + (1 : Int32)))]) rfl k') ?_
  show Runs p.tables e below _ (s₁.setTop (mkF m 29 #[.val (.ref b), .val (.ref d), .val (.int ((3 : Int32) + (1 : Int32)))] []))
  rw [show ((3 : Int32) + (1 : Int32)) = (4 : Int32) from rfl]
  show Runs p.tables e below _ (s₁.setTop (mkF m 29 #[.val (.ref b), .val (.ref d), .val (.int (4 : Int32))] []))
  refine Runs.st (fun t' k' => XS.goto X0.here hx rfl (pc0 := 29) (pc' := 9) rfl (hb hby d_jdk_43_method_13_29) (by decide) (by decide) k') ?_
  refine Runs.st (fun t' k' => XS.iloadN X0.here hx rfl (hb hby d_jdk_43_method_13_9) rfl k') ?_
  refine Runs.st (fun t' k' => XS.aloadN X0.here hx rfl (hb hby d_jdk_43_method_13_10) rfl rfl k') ?_
  obtain ⟨cl15_, Ar15_, -, S15_, M15_, -, -⟩ := id V1
  refine Runs.st (X0.arraylength hx (by rw [e0]; exact Ar15_.1) (State.isArrayOf_alike hZ.alike Ar15_.2.1) (g := (mkF m 11 #[.val (.ref b), .val (.ref d), .val (.int (4 : Int32))] [(.ref b), (.int (4 : Int32))])) rfl rfl (hb hby d_jdk_43_method_13_11)) ?_
  rw [len_of S15_ M15_]
  show Runs p.tables e below _ (s₁.setTop (mkF m 12 #[.val (.ref b), .val (.ref d), .val (.int (4 : Int32))] [(.int (5 : Int32)), (.int (4 : Int32))]))
  refine Runs.st (fun t' k' => XS.icmpNo X0.here hx rfl (hb hby d_jdk_43_method_13_12) rfl (tlt (by decide)).2.1 k') ?_
  show Runs p.tables e below _ (s₁.setTop (mkF m 15 #[.val (.ref b), .val (.ref d), .val (.int (4 : Int32))] []))
  refine Runs.st (fun t' k' => XS.aloadN X0.here hx rfl (hb hby d_jdk_43_method_13_15) rfl rfl k') ?_
  refine Runs.st (fun t' k' => XS.iloadN X0.here hx rfl (hb hby d_jdk_43_method_13_16) rfl k') ?_
  obtain ⟨cl16_, Ar16_, -, S16_, M16_, Ha16_, -⟩ := id V1
  have hin16_ : ¬ ((4 : Int32) < 0 ∨ cl16_.slots.size ≤ ((4 : Int32)).toNatClampNeg) := inb_of S16_ ⟨by decide, by decide⟩
  refine Runs.st (X0.baloadBytes hx (j := (4 : Int32)) (v := (.int x4)) (by rw [e0]; exact Ar16_.1) (State.isArrayOf_alike hZ.alike Ar16_.2.1) Ar16_.2.2 hin16_ (Ha16_.at hin16_ rfl) (g := (mkF m 17 #[.val (.ref b), .val (.ref d), .val (.int (4 : Int32))] [(.int (4 : Int32)), (.ref b)])) rfl rfl (hb hby d_jdk_43_method_13_17)) ?_
  show Runs p.tables e below _ (s₁.setTop (mkF m 18 #[.val (.ref b), .val (.ref d), .val (.int (4 : Int32))] [(.int x4)]))
  refine Runs.st (fun t' k' => XS.aloadN X0.here hx rfl (hb hby d_jdk_43_method_13_18) rfl rfl k') ?_
  refine Runs.st (fun t' k' => XS.iloadN X0.here hx rfl (hb hby d_jdk_43_method_13_19) rfl k') ?_
  obtain ⟨cl17_, Ar17_, -, S17_, M17_, Ha17_, -⟩ := id V2
  have hin17_ : ¬ ((4 : Int32) < 0 ∨ cl17_.slots.size ≤ ((4 : Int32)).toNatClampNeg) := inb_of S17_ ⟨by decide, by decide⟩
  refine Runs.st (X0.baloadBytes hx (j := (4 : Int32)) (v := (.int (115 : Int32))) (by rw [e0]; exact Ar17_.1) (State.isArrayOf_alike hZ.alike Ar17_.2.1) Ar17_.2.2 hin17_ (Ha17_.at hin17_ rfl) (g := (mkF m 20 #[.val (.ref b), .val (.ref d), .val (.int (4 : Int32))] [(.int (4 : Int32)), (.ref d), (.int x4)])) rfl rfl (hb hby d_jdk_43_method_13_20)) ?_
  show Runs p.tables e below _ (s₁.setTop (mkF m 21 #[.val (.ref b), .val (.ref d), .val (.int (4 : Int32))] [(.int (115 : Int32)), (.int x4)]))
  refine Runs.st (fun t' k' => XS.icmpNo X0.here hx rfl (hb hby d_jdk_43_method_13_21) rfl (feq y4).1 k') ?_
  show Runs p.tables e below _ (s₁.setTop (mkF m 24 #[.val (.ref b), .val (.ref d), .val (.int (4 : Int32))] []))
  refine Runs.st (fun t' k' => XS.iconst X0.here hx rfl (hb hby d_jdk_43_method_13_24) k') ?_
  refine Runs.ret X0 hlk (v := (some (.int (0 : Int32)))) (fun h => by rw [hret] at h; cases h) (by decide) (by decide) ?_ (fun fs hr => retN X0 hx (t := .boolean) hret (by simp) (hb hby d_jdk_43_method_13_25) hr)
  try rw [e0]
  exact ⟨rfl, N0, rfl⟩
def Q_rmS4 (Z : State) (a : Addr) (oo : Addr) (zc : Int32) (b d : Addr) (k1 kv0 : ClassId) (x0 x1 x2 x3 x4 : Int32) (h0 : Heap) (n0 : Nat) : Option Value → Heap → List Loc → Prop := (fun v h L => v = some (.int (0 : Int32)) ∧ Fr n0 L ∧ h = h0)
set_option maxRecDepth 65536 in
set_option maxHeartbeats 40000000 in
theorem rmS4 (l : Launch) (Z : State) (a0 : Array Value) (hw : ∀ d ∈ tables_1, d.before a0 Z = true) (ws : List Jvm.Cond) (a : Addr) (oo : Addr) (zc : Int32) (b d : Addr) (k1 kv0 : ClassId) (x0 x1 x2 x3 x4 : Int32) (h0 : Heap) (n0 : Nat) (Z0 : n0 ≤ h0.size) (hne : a ≠ oo) (Sc : Sta Z h0 "java/lang/String" "COMPACT_STRINGS" "Z" (.int zc)) (hzc : ¬ zc = 0) (Ea : Exa Z h0 a "java/lang/String") (Ca : Fld Z h0 a "java/lang/String" "coder" "B" (.int (0 : Int32))) (Va : Fld Z h0 a "java/lang/String" "value" "[B" (.ref b)) (Eo : Exa Z h0 oo "java/lang/String") (Co : Fld Z h0 oo "java/lang/String" "coder" "B" (.int (0 : Int32))) (Vo : Fld Z h0 oo "java/lang/String" "value" "[B" (.ref d)) (V1 : Arv Z h0 b k1 .byte (5 : Int32) [(.int x0), (.int x1), (.int x2), (.int x3), (.int x4)] (.int (0 : Int32))) (V0 : Arv Z h0 d kv0 .byte (5 : Int32) [(.int (82 : Int32)), (.int (101 : Int32)), (.int (100 : Int32)), (.int (105 : Int32)), (.int (115 : Int32))] (.int (0 : Int32))) (y0 : x0 = (82 : Int32)) (y1 : x1 = (101 : Int32)) (y2 : x2 = (100 : Int32)) (y3 : x3 = (105 : Int32)) (y4 : ¬ x4 = (115 : Int32)) :
    MetFree l (⟨"java/lang/String", "equals", "(Ljava/lang/Object;)Z"⟩ : MethodName) (head1 (Jvm.Cond.code (⟨"java/lang/String", "equals", "(Ljava/lang/Object;)Z"⟩ : MethodName) jdk_42_method_66_code 3 (some .boolean) :: ws) ({ frames := 1, cells := 0, slots := 0, locals := 14 } : Room)) (fun ar_ U => ar_ = #[(.ref a), (.ref oo)] ∧ Z.Warmed39 U.vm ∧ U.heap = h0) (fun _ _ _ _ _ => True) (fun _ U o U' => Phi U (Q_rmS4 Z a oo zc b d k1 kv0 x0 x1 x2 x3 x4 h0 n0) ({ frames := 1, cells := 0, slots := 0, locals := 14 } : Room).cells ({ frames := 1, cells := 0, slots := 0, locals := 14 } : Room).slots o U') := by
  refine MetFree.of_bodySF (plainFor_of_name pn_java_lang_String) hisR ?_
  intro p e s m args below meth c s₁ Bd hml0 hP hK
  obtain ⟨rfl, hZ, hh⟩ := hP
  have hx := Bd.exec
  have hby := Bd.bytes
  have hlk := Bd.notSynchronized
  have hml : c.maxLocals = 3 := hml0
  have hown : s.vm.findClass "java/lang/String" = some m.cls := findClass_of_methodNamed Bd.named
  have hown0 := hown
  have hnm := (name_of_methodNamed Bd.named Bd.method).1
  have hret := Bd.returns
  have X0 : Stand p l e ({ frames := 1, cells := 0, slots := 0, locals := 14 } : Room) s m #[(.ref a), (.ref oo)] below meth c s₁ [] 0 0 := Stand.of_body Bd
  have e0 : s₁.heap = h0 := by rw [← hh, Bd.state]; rfl
  have N0 := Fr.nil n0
  have sz := Z0
  have K := Keep.refl h0 []
  show Runs p.tables e below (Phi s (Q_rmS4 Z a oo zc b d k1 kv0 x0 x1 x2 x3 x4 h0 n0) ({ frames := 1, cells := 0, slots := 0, locals := 14 } : Room).cells ({ frames := 1, cells := 0, slots := 0, locals := 14 } : Room).slots) _
  refine Runs.st (fun t' k' => castTop (ef_jdk_42_method_66_RR m a oo ) k') ?_
  show Runs p.tables e below _ (s₁.setTop (mkF m 0 #[.val (.ref a), .val (.ref oo), .unset] []))
  refine Runs.st (fun t' k' => XS.aloadN X0.here hx rfl (hb hby d_jdk_42_method_66_0) rfl rfl k') ?_
  refine Runs.st (fun t' k' => XS.aloadN X0.here hx rfl (hb hby d_jdk_42_method_66_1) rfl rfl k') ?_
  refine Runs.st (fun t' k' => Jvm.RoadKit.acmp (g := (mkF m 2 #[.val (.ref a), .val (.ref oo), .unset] [(.ref oo), (.ref a)])) X0 hx rfl rfl rfl (pc0 := 2) (pc' := 7) (same := false) rfl (hb hby d_jdk_42_method_66_2) rfl (decide_eq_false fun q => hne (Value.ref.inj q)) (by decide) (by decide) k') ?_
  show Runs p.tables e below _ (s₁.setTop (mkF m 7 #[.val (.ref a), .val (.ref oo), .unset] []))
  refine Runs.st (fun t' k' => XS.aloadN X0.here hx rfl (hb hby d_jdk_42_method_66_7) rfl rfl k') ?_
  obtain ⟨T1_, X1_, e1_, st1_⟩ := instY X0 hx hZ hown (hw _ (List.mem_of_getElem? (i := 77) rfl)) e0 (Ins.self Eo) (g := (mkF m 8 #[.val (.ref a), .val (.ref oo), .unset] [(.ref oo)])) rfl rfl (hb hby d_jdk_42_method_66_8)
  refine Runs.st (st1_) ?_
  show Runs p.tables e below _ (T1_.setTop (mkF m 11 #[.val (.ref a), .val (.ref oo), .unset] [(.int (1 : Int32))]))
  refine Runs.st (fun t' k' => XS.ifNo X1_.here hx rfl (hb hby d_jdk_42_method_66_11) rfl ((if0 _ _).trans (feq (by decide)).1) k') ?_
  show Runs p.tables e below _ (T1_.setTop (mkF m 14 #[.val (.ref a), .val (.ref oo), .unset] []))
  refine Runs.st (fun t' k' => XS.aloadN X1_.here hx rfl (hb hby d_jdk_42_method_66_14) rfl rfl k') ?_
  obtain ⟨T2_, X2_, e2_, st2_⟩ := castY X1_ hx hZ hown (hw _ (List.mem_of_getElem? (i := 77) rfl)) e1_ (Ins.self Eo) (g := (mkF m 15 #[.val (.ref a), .val (.ref oo), .unset] [(.ref oo)])) rfl rfl (hb hby d_jdk_42_method_66_15)
  refine Runs.st (st2_) ?_
  show Runs p.tables e below _ (T2_.setTop (mkF m 18 #[.val (.ref a), .val (.ref oo), .unset] [(.ref oo)]))
  refine Runs.st (fun t' k' => XS.astoreN X2_.here hx rfl (hb hby d_jdk_42_method_66_18) rfl rfl (l' := #[.val (.ref a), .val (.ref oo), .val (.ref oo)]) rfl k') ?_
  obtain ⟨T3_, X3_, e3_, st3_⟩ := getS2 X2_ hx hZ hown (host := "") (Or.inl (hw _ (List.mem_of_getElem? (i := 15) rfl))) Via.refl e2_ Sc (g := (mkF m 19 #[.val (.ref a), .val (.ref oo), .val (.ref oo)] [])) rfl (hb hby d_jdk_42_method_66_19)
  refine Runs.st (st3_) ?_
  show Runs p.tables e below _ (T3_.setTop (mkF m 22 #[.val (.ref a), .val (.ref oo), .val (.ref oo)] [(.int zc)]))
  refine Runs.st (fun t' k' => XS.ifNo X3_.here hx rfl (hb hby d_jdk_42_method_66_22) rfl ((if0 _ _).trans (feq hzc).1) k') ?_
  show Runs p.tables e below _ (T3_.setTop (mkF m 25 #[.val (.ref a), .val (.ref oo), .val (.ref oo)] []))
  refine Runs.st (fun t' k' => XS.aloadN X3_.here hx rfl (hb hby d_jdk_42_method_66_25) rfl rfl k') ?_
  obtain ⟨T4_, X4_, e4_, st4_⟩ := getF X3_ hx hZ hown (host := "") (Or.inl (hw _ (List.mem_of_getElem? (i := 27) rfl))) Via.refl e3_ Ca (g := (mkF m 26 #[.val (.ref a), .val (.ref oo), .val (.ref oo)] [(.ref a)])) rfl rfl (hb hby d_jdk_42_method_66_26)
  refine Runs.st (st4_) ?_
  show Runs p.tables e below _ (T4_.setTop (mkF m 29 #[.val (.ref a), .val (.ref oo), .val (.ref oo)] [(.int (0 : Int32))]))
  refine Runs.st (fun t' k' => XS.aloadN X4_.here hx rfl (hb hby d_jdk_42_method_66_29) rfl rfl k') ?_
  obtain ⟨T5_, X5_, e5_, st5_⟩ := getF X4_ hx hZ hown (host := "") (Or.inl (hw _ (List.mem_of_getElem? (i := 27) rfl))) Via.refl e4_ Co (g := (mkF m 30 #[.val (.ref a), .val (.ref oo), .val (.ref oo)] [(.ref oo), (.int (0 : Int32))])) rfl rfl (hb hby d_jdk_42_method_66_30)
  refine Runs.st (st5_) ?_
  show Runs p.tables e below _ (T5_.setTop (mkF m 33 #[.val (.ref a), .val (.ref oo), .val (.ref oo)] [(.int (0 : Int32)), (.int (0 : Int32))]))
  refine Runs.st (fun t' k' => XS.icmpNo X5_.here hx rfl (hb hby d_jdk_42_method_66_33) rfl (teq rfl).2 k') ?_
  show Runs p.tables e below _ (T5_.setTop (mkF m 36 #[.val (.ref a), .val (.ref oo), .val (.ref oo)] []))
  refine Runs.st (fun t' k' => XS.aloadN X5_.here hx rfl (hb hby d_jdk_42_method_66_36) rfl rfl k') ?_
  obtain ⟨T6_, X6_, e6_, st6_⟩ := getF X5_ hx hZ hown (host := "") (Or.inl (hw _ (List.mem_of_getElem? (i := 29) rfl))) Via.refl e5_ Va (g := (mkF m 37 #[.val (.ref a), .val (.ref oo), .val (.ref oo)] [(.ref a)])) rfl rfl (hb hby d_jdk_42_method_66_37)
  refine Runs.st (st6_) ?_
  show Runs p.tables e below _ (T6_.setTop (mkF m 40 #[.val (.ref a), .val (.ref oo), .val (.ref oo)] [(.ref b)]))
  refine Runs.st (fun t' k' => XS.aloadN X6_.here hx rfl (hb hby d_jdk_42_method_66_40) rfl rfl k') ?_
  obtain ⟨T7_, X7_, e7_, st7_⟩ := getF X6_ hx hZ hown (host := "") (Or.inl (hw _ (List.mem_of_getElem? (i := 29) rfl))) Via.refl e6_ Vo (g := (mkF m 41 #[.val (.ref a), .val (.ref oo), .val (.ref oo)] [(.ref oo), (.ref b)])) rfl rfl (hb hby d_jdk_42_method_66_41)
  refine Runs.st (st7_) ?_
  show Runs p.tables e below _ (T7_.setTop (mkF m 44 #[.val (.ref a), .val (.ref oo), .val (.ref oo)] [(.ref d), (.ref b)]))
  obtain ⟨_, _, ⟨T8_, L8_, k8_, n8_⟩, -, X8_, ⟨Lc8_, hQ8_, l8_, y8_, z8_⟩, st8_⟩ := Jvm.LawKit.callS X7_ hx (y := (⟨"java/lang/StringLatin1", "equals", "([B[B)Z"⟩ : MethodName)) hown (mvT hZ (hw _ (List.mem_of_getElem? (i := 78) rfl))) (mvT hZ (hw _ (List.mem_of_getElem? (i := 79) rfl))) (mvT hZ (hw _ (List.mem_of_getElem? (i := 53) rfl))) (mvT hZ (hw _ (List.mem_of_getElem? (i := 80) rfl))) (by decide) (backOf (W := 0) (rmL4 l Z a0 hw [] b d k1 kv0 x0 x1 x2 x3 x4 h0 n0 sz V1 V0 y0 y1 y2 y3 y4) hZ (hw _ (List.mem_of_getElem? (i := 80) rfl)) (hw _ (List.mem_of_getElem? (i := 53) rfl)) (by decide) (by decide)) (g := (mkF m 44 #[.val (.ref a), .val (.ref oo), .val (.ref oo)] [(.ref d), (.ref b)])) rfl (by rw [hml]; rfl) (argsL := [(.ref b), (.ref d)]) (rest := []) (lenOf pd__28_5bB_5bB_29Z rfl) rfl (by show 2 * 0 + _ ≤ _; exact Nat.le_of_eq rfl) (hb hby d_jdk_42_method_66_44) (fun _ _ => ⟨rfl, e7_, (by decide : 0 + 0 ≤ _), (by decide : 0 + 0 ≤ _)⟩)
  dsimp only [Pt.U, Pt.locs, Pt.cells, Pt.slots] at X8_ l8_ y8_ z8_ st8_ hQ8_
  subst l8_ y8_ z8_
  obtain ⟨rfl, N8_q, e8_⟩ := hQ8_
  have N8_ := Fr.app N0 N8_q
  refine Runs.st (st8_) ?_
  replace X8_ := wider X8_ (c' := 0) (s' := 0) (by decide) (by decide)
  show Runs p.tables e below _ (T8_.setTop (mkF m 47 #[.val (.ref a), .val (.ref oo), .val (.ref oo)] [(.int (0 : Int32))]))
  refine Runs.st (fun t' k' => XS.ifYes X8_.here hx rfl (pc0 := 47) (pc' := 54) rfl (hb hby d_jdk_42_method_66_47) rfl ((if0 _ _).trans (teq rfl).1) (by decide) (by decide) k') ?_
  show Runs p.tables e below _ (T8_.setTop (mkF m 54 #[.val (.ref a), .val (.ref oo), .val (.ref oo)] []))
  refine Runs.st (fun t' k' => XS.iconst X8_.here hx rfl (hb hby d_jdk_42_method_66_54) k') ?_
  refine Runs.ret X8_ hlk (v := (some (.int (0 : Int32)))) (fun h => by rw [hret] at h; cases h) (by decide) (by decide) ?_ (fun fs hr => retN X8_ hx (t := .boolean) hret (by simp) (hb hby d_jdk_42_method_66_55) hr)
  try rw [e8_]
  exact ⟨rfl, N8_, rfl⟩
def Q_rmLA (Z : State) (b : Addr) (d : Addr) (k1 k2 : ClassId) (x0 x1 x2 x3 x4 : Int32) (h0 : Heap) (n0 : Nat) : Option Value → Heap → List Loc → Prop := (fun v h L => v = some (.int (1 : Int32)) ∧ Fr n0 L ∧ h = h0)
theorem d_jdk_43_method_13_32 : decode jdk_43_method_13_code 32 = .ok (.iconst 1, 1) := by decide +kernel
theorem d_jdk_43_method_13_33 : decode jdk_43_method_13_code 33 = .ok (.ireturn, 1) := by decide +kernel
set_option maxRecDepth 65536 in
set_option maxHeartbeats 40000000 in
theorem rmLA (l : Launch) (Z : State) (a0 : Array Value) (hw : ∀ d ∈ tables_1, d.before a0 Z = true) (ws : List Jvm.Cond) (b : Addr) (d : Addr) (k1 k2 : ClassId) (x0 x1 x2 x3 x4 : Int32) (h0 : Heap) (n0 : Nat) (Z0 : n0 ≤ h0.size) (V1 : Arv Z h0 b k1 .byte (5 : Int32) [(.int x0), (.int x1), (.int x2), (.int x3), (.int x4)] (.int (0 : Int32))) (V2 : Arv Z h0 d k2 .byte (5 : Int32) [(.int (82 : Int32)), (.int (101 : Int32)), (.int (100 : Int32)), (.int (105 : Int32)), (.int (115 : Int32))] (.int (0 : Int32))) (y0 : x0 = (82 : Int32)) (y1 : x1 = (101 : Int32)) (y2 : x2 = (100 : Int32)) (y3 : x3 = (105 : Int32)) (y4 : x4 = (115 : Int32)) :
    MetFree l (⟨"java/lang/StringLatin1", "equals", "([B[B)Z"⟩ : MethodName) (head1 (Jvm.Cond.code (⟨"java/lang/StringLatin1", "equals", "([B[B)Z"⟩ : MethodName) jdk_43_method_13_code 3 (some .boolean) :: ws) ({ frames := 0, cells := 0, slots := 0, locals := 0 } : Room)) (fun ar_ U => ar_ = #[(.ref b), (.ref d)] ∧ Z.Warmed39 U.vm ∧ U.heap = h0) (fun _ _ _ _ _ => True) (fun _ U o U' => Phi U (Q_rmLA Z b d k1 k2 x0 x1 x2 x3 x4 h0 n0) ({ frames := 0, cells := 0, slots := 0, locals := 0 } : Room).cells ({ frames := 0, cells := 0, slots := 0, locals := 0 } : Room).slots o U') := by
  refine MetFree.of_bodySF (plainFor_of_name pn_java_lang_StringLatin1) hisR ?_
  intro p e s m args below meth c s₁ Bd hml0 hP hK
  obtain ⟨rfl, hZ, hh⟩ := hP
  have hx := Bd.exec
  have hby := Bd.bytes
  have hlk := Bd.notSynchronized
  have hml : c.maxLocals = 3 := hml0
  have hown : s.vm.findClass "java/lang/StringLatin1" = some m.cls := findClass_of_methodNamed Bd.named
  have hown0 := hown
  have hnm := (name_of_methodNamed Bd.named Bd.method).1
  have hret := Bd.returns
  have X0 : Stand p l e ({ frames := 0, cells := 0, slots := 0, locals := 0 } : Room) s m #[(.ref b), (.ref d)] below meth c s₁ [] 0 0 := Stand.of_body Bd
  have e0 : s₁.heap = h0 := by rw [← hh, Bd.state]; rfl
  have N0 := Fr.nil n0
  have sz := Z0
  have K := Keep.refl h0 []
  show Runs p.tables e below (Phi s (Q_rmLA Z b d k1 k2 x0 x1 x2 x3 x4 h0 n0) ({ frames := 0, cells := 0, slots := 0, locals := 0 } : Room).cells ({ frames := 0, cells := 0, slots := 0, locals := 0 } : Room).slots) _
  refine Runs.st (fun t' k' => castTop (ef_jdk_43_method_13_RR m b d ) k') ?_
  show Runs p.tables e below _ (s₁.setTop (mkF m 0 #[.val (.ref b), .val (.ref d), .unset] []))
  refine Runs.st (fun t' k' => XS.aloadN X0.here hx rfl (hb hby d_jdk_43_method_13_0) rfl rfl k') ?_
  obtain ⟨cl1_, Ar1_, -, S1_, M1_, -, -⟩ := id V1
  refine Runs.st (X0.arraylength hx (by rw [e0]; exact Ar1_.1) (State.isArrayOf_alike hZ.alike Ar1_.2.1) (g := (mkF m 1 #[.val (.ref b), .val (.ref d), .unset] [(.ref b)])) rfl rfl (hb hby d_jdk_43_method_13_1)) ?_
  rw [len_of S1_ M1_]
  show Runs p.tables e below _ (s₁.setTop (mkF m 2 #[.val (.ref b), .val (.ref d), .unset] [(.int (5 : Int32))]))
  refine Runs.st (fun t' k' => XS.aloadN X0.here hx rfl (hb hby d_jdk_43_method_13_2) rfl rfl k') ?_
  obtain ⟨cl2_, Ar2_, -, S2_, M2_, -, -⟩ := id V2
  refine Runs.st (X0.arraylength hx (by rw [e0]; exact Ar2_.1) (State.isArrayOf_alike hZ.alike Ar2_.2.1) (g := (mkF m 3 #[.val (.ref b), .val (.ref d), .unset] [(.ref d), (.int (5 : Int32))])) rfl rfl (hb hby d_jdk_43_method_13_3)) ?_
  rw [len_of S2_ M2_]
  show Runs p.tables e below _ (s₁.setTop (mkF m 4 #[.val (.ref b), .val (.ref d), .unset] [(.int (5 : Int32)), (.int (5 : Int32))]))
  refine Runs.st (fun t' k' => XS.icmpNo X0.here hx rfl (hb hby d_jdk_43_method_13_4) rfl (teq rfl).2 k') ?_
  show Runs p.tables e below _ (s₁.setTop (mkF m 7 #[.val (.ref b), .val (.ref d), .unset] []))
  refine Runs.st (fun t' k' => XS.iconst X0.here hx rfl (hb hby d_jdk_43_method_13_7) k') ?_
  refine Runs.st (fun t' k' => XS.istoreN X0.here hx rfl (hb hby d_jdk_43_method_13_8) rfl (l' := #[.val (.ref b), .val (.ref d), .val (.int (0 : Int32))]) rfl k') ?_
  refine Runs.st (fun t' k' => XS.iloadN X0.here hx rfl (hb hby d_jdk_43_method_13_9) rfl k') ?_
  refine Runs.st (fun t' k' => XS.aloadN X0.here hx rfl (hb hby d_jdk_43_method_13_10) rfl rfl k') ?_
  obtain ⟨cl3_, Ar3_, -, S3_, M3_, -, -⟩ := id V1
  refine Runs.st (X0.arraylength hx (by rw [e0]; exact Ar3_.1) (State.isArrayOf_alike hZ.alike Ar3_.2.1) (g := (mkF m 11 #[.val (.ref b), .val (.ref d), .val (.int (0 : Int32))] [(.ref b), (.int (0 : Int32))])) rfl rfl (hb hby d_jdk_43_method_13_11)) ?_
  rw [len_of S3_ M3_]
  show Runs p.tables e below _ (s₁.setTop (mkF m 12 #[.val (.ref b), .val (.ref d), .val (.int (0 : Int32))] [(.int (5 : Int32)), (.int (0 : Int32))]))
  refine Runs.st (fun t' k' => XS.icmpNo X0.here hx rfl (hb hby d_jdk_43_method_13_12) rfl (tlt (by decide)).2.1 k') ?_
  show Runs p.tables e below _ (s₁.setTop (mkF m 15 #[.val (.ref b), .val (.ref d), .val (.int (0 : Int32))] []))
  refine Runs.st (fun t' k' => XS.aloadN X0.here hx rfl (hb hby d_jdk_43_method_13_15) rfl rfl k') ?_
  refine Runs.st (fun t' k' => XS.iloadN X0.here hx rfl (hb hby d_jdk_43_method_13_16) rfl k') ?_
  obtain ⟨cl4_, Ar4_, -, S4_, M4_, Ha4_, -⟩ := id V1
  have hin4_ : ¬ ((0 : Int32) < 0 ∨ cl4_.slots.size ≤ ((0 : Int32)).toNatClampNeg) := inb_of S4_ ⟨by decide, by decide⟩
  refine Runs.st (X0.baloadBytes hx (j := (0 : Int32)) (v := (.int x0)) (by rw [e0]; exact Ar4_.1) (State.isArrayOf_alike hZ.alike Ar4_.2.1) Ar4_.2.2 hin4_ (Ha4_.at hin4_ rfl) (g := (mkF m 17 #[.val (.ref b), .val (.ref d), .val (.int (0 : Int32))] [(.int (0 : Int32)), (.ref b)])) rfl rfl (hb hby d_jdk_43_method_13_17)) ?_
  show Runs p.tables e below _ (s₁.setTop (mkF m 18 #[.val (.ref b), .val (.ref d), .val (.int (0 : Int32))] [(.int x0)]))
  refine Runs.st (fun t' k' => XS.aloadN X0.here hx rfl (hb hby d_jdk_43_method_13_18) rfl rfl k') ?_
  refine Runs.st (fun t' k' => XS.iloadN X0.here hx rfl (hb hby d_jdk_43_method_13_19) rfl k') ?_
  obtain ⟨cl5_, Ar5_, -, S5_, M5_, Ha5_, -⟩ := id V2
  have hin5_ : ¬ ((0 : Int32) < 0 ∨ cl5_.slots.size ≤ ((0 : Int32)).toNatClampNeg) := inb_of S5_ ⟨by decide, by decide⟩
  refine Runs.st (X0.baloadBytes hx (j := (0 : Int32)) (v := (.int (82 : Int32))) (by rw [e0]; exact Ar5_.1) (State.isArrayOf_alike hZ.alike Ar5_.2.1) Ar5_.2.2 hin5_ (Ha5_.at hin5_ rfl) (g := (mkF m 20 #[.val (.ref b), .val (.ref d), .val (.int (0 : Int32))] [(.int (0 : Int32)), (.ref d), (.int x0)])) rfl rfl (hb hby d_jdk_43_method_13_20)) ?_
  show Runs p.tables e below _ (s₁.setTop (mkF m 21 #[.val (.ref b), .val (.ref d), .val (.int (0 : Int32))] [(.int (82 : Int32)), (.int x0)]))
  refine Runs.st (fun t' k' => XS.icmpYes X0.here hx rfl (pc0 := 21) (pc' := 26) rfl (hb hby d_jdk_43_method_13_21) rfl (teq y0).1 (by decide) (by decide) k') ?_
  show Runs p.tables e below _ (s₁.setTop (mkF m 26 #[.val (.ref b), .val (.ref d), .val (.int (0 : Int32))] []))
  refine Runs.st (fun t' k' => XS.iinc X0.here hx rfl (hb hby d_jdk_43_method_13_26) rfl (l' := #[.val (.ref b), .val (.ref d), .val (.int ((0 : Int32) + (1 : Int32)))]) rfl k') ?_
  show Runs p.tables e below _ (s₁.setTop (mkF m 29 #[.val (.ref b), .val (.ref d), .val (.int ((0 : Int32) + (1 : Int32)))] []))
  rw [show ((0 : Int32) + (1 : Int32)) = (1 : Int32) from rfl]
  show Runs p.tables e below _ (s₁.setTop (mkF m 29 #[.val (.ref b), .val (.ref d), .val (.int (1 : Int32))] []))
  refine Runs.st (fun t' k' => XS.goto X0.here hx rfl (pc0 := 29) (pc' := 9) rfl (hb hby d_jdk_43_method_13_29) (by decide) (by decide) k') ?_
  refine Runs.st (fun t' k' => XS.iloadN X0.here hx rfl (hb hby d_jdk_43_method_13_9) rfl k') ?_
  refine Runs.st (fun t' k' => XS.aloadN X0.here hx rfl (hb hby d_jdk_43_method_13_10) rfl rfl k') ?_
  obtain ⟨cl6_, Ar6_, -, S6_, M6_, -, -⟩ := id V1
  refine Runs.st (X0.arraylength hx (by rw [e0]; exact Ar6_.1) (State.isArrayOf_alike hZ.alike Ar6_.2.1) (g := (mkF m 11 #[.val (.ref b), .val (.ref d), .val (.int (1 : Int32))] [(.ref b), (.int (1 : Int32))])) rfl rfl (hb hby d_jdk_43_method_13_11)) ?_
  rw [len_of S6_ M6_]
  show Runs p.tables e below _ (s₁.setTop (mkF m 12 #[.val (.ref b), .val (.ref d), .val (.int (1 : Int32))] [(.int (5 : Int32)), (.int (1 : Int32))]))
  refine Runs.st (fun t' k' => XS.icmpNo X0.here hx rfl (hb hby d_jdk_43_method_13_12) rfl (tlt (by decide)).2.1 k') ?_
  show Runs p.tables e below _ (s₁.setTop (mkF m 15 #[.val (.ref b), .val (.ref d), .val (.int (1 : Int32))] []))
  refine Runs.st (fun t' k' => XS.aloadN X0.here hx rfl (hb hby d_jdk_43_method_13_15) rfl rfl k') ?_
  refine Runs.st (fun t' k' => XS.iloadN X0.here hx rfl (hb hby d_jdk_43_method_13_16) rfl k') ?_
  obtain ⟨cl7_, Ar7_, -, S7_, M7_, Ha7_, -⟩ := id V1
  have hin7_ : ¬ ((1 : Int32) < 0 ∨ cl7_.slots.size ≤ ((1 : Int32)).toNatClampNeg) := inb_of S7_ ⟨by decide, by decide⟩
  refine Runs.st (X0.baloadBytes hx (j := (1 : Int32)) (v := (.int x1)) (by rw [e0]; exact Ar7_.1) (State.isArrayOf_alike hZ.alike Ar7_.2.1) Ar7_.2.2 hin7_ (Ha7_.at hin7_ rfl) (g := (mkF m 17 #[.val (.ref b), .val (.ref d), .val (.int (1 : Int32))] [(.int (1 : Int32)), (.ref b)])) rfl rfl (hb hby d_jdk_43_method_13_17)) ?_
  show Runs p.tables e below _ (s₁.setTop (mkF m 18 #[.val (.ref b), .val (.ref d), .val (.int (1 : Int32))] [(.int x1)]))
  refine Runs.st (fun t' k' => XS.aloadN X0.here hx rfl (hb hby d_jdk_43_method_13_18) rfl rfl k') ?_
  refine Runs.st (fun t' k' => XS.iloadN X0.here hx rfl (hb hby d_jdk_43_method_13_19) rfl k') ?_
  obtain ⟨cl8_, Ar8_, -, S8_, M8_, Ha8_, -⟩ := id V2
  have hin8_ : ¬ ((1 : Int32) < 0 ∨ cl8_.slots.size ≤ ((1 : Int32)).toNatClampNeg) := inb_of S8_ ⟨by decide, by decide⟩
  refine Runs.st (X0.baloadBytes hx (j := (1 : Int32)) (v := (.int (101 : Int32))) (by rw [e0]; exact Ar8_.1) (State.isArrayOf_alike hZ.alike Ar8_.2.1) Ar8_.2.2 hin8_ (Ha8_.at hin8_ rfl) (g := (mkF m 20 #[.val (.ref b), .val (.ref d), .val (.int (1 : Int32))] [(.int (1 : Int32)), (.ref d), (.int x1)])) rfl rfl (hb hby d_jdk_43_method_13_20)) ?_
  show Runs p.tables e below _ (s₁.setTop (mkF m 21 #[.val (.ref b), .val (.ref d), .val (.int (1 : Int32))] [(.int (101 : Int32)), (.int x1)]))
  refine Runs.st (fun t' k' => XS.icmpYes X0.here hx rfl (pc0 := 21) (pc' := 26) rfl (hb hby d_jdk_43_method_13_21) rfl (teq y1).1 (by decide) (by decide) k') ?_
  show Runs p.tables e below _ (s₁.setTop (mkF m 26 #[.val (.ref b), .val (.ref d), .val (.int (1 : Int32))] []))
  refine Runs.st (fun t' k' => XS.iinc X0.here hx rfl (hb hby d_jdk_43_method_13_26) rfl (l' := #[.val (.ref b), .val (.ref d), .val (.int ((1 : Int32) + (1 : Int32)))]) rfl k') ?_
  show Runs p.tables e below _ (s₁.setTop (mkF m 29 #[.val (.ref b), .val (.ref d), .val (.int ((1 : Int32) + (1 : Int32)))] []))
  rw [show ((1 : Int32) + (1 : Int32)) = (2 : Int32) from rfl]
  show Runs p.tables e below _ (s₁.setTop (mkF m 29 #[.val (.ref b), .val (.ref d), .val (.int (2 : Int32))] []))
  refine Runs.st (fun t' k' => XS.goto X0.here hx rfl (pc0 := 29) (pc' := 9) rfl (hb hby d_jdk_43_method_13_29) (by decide) (by decide) k') ?_
  refine Runs.st (fun t' k' => XS.iloadN X0.here hx rfl (hb hby d_jdk_43_method_13_9) rfl k') ?_
  refine Runs.st (fun t' k' => XS.aloadN X0.here hx rfl (hb hby d_jdk_43_method_13_10) rfl rfl k') ?_
  obtain ⟨cl9_, Ar9_, -, S9_, M9_, -, -⟩ := id V1
  refine Runs.st (X0.arraylength hx (by rw [e0]; exact Ar9_.1) (State.isArrayOf_alike hZ.alike Ar9_.2.1) (g := (mkF m 11 #[.val (.ref b), .val (.ref d), .val (.int (2 : Int32))] [(.ref b), (.int (2 : Int32))])) rfl rfl (hb hby d_jdk_43_method_13_11)) ?_
  rw [len_of S9_ M9_]
  show Runs p.tables e below _ (s₁.setTop (mkF m 12 #[.val (.ref b), .val (.ref d), .val (.int (2 : Int32))] [(.int (5 : Int32)), (.int (2 : Int32))]))
  refine Runs.st (fun t' k' => XS.icmpNo X0.here hx rfl (hb hby d_jdk_43_method_13_12) rfl (tlt (by decide)).2.1 k') ?_
  show Runs p.tables e below _ (s₁.setTop (mkF m 15 #[.val (.ref b), .val (.ref d), .val (.int (2 : Int32))] []))
  refine Runs.st (fun t' k' => XS.aloadN X0.here hx rfl (hb hby d_jdk_43_method_13_15) rfl rfl k') ?_
  refine Runs.st (fun t' k' => XS.iloadN X0.here hx rfl (hb hby d_jdk_43_method_13_16) rfl k') ?_
  obtain ⟨cl10_, Ar10_, -, S10_, M10_, Ha10_, -⟩ := id V1
  have hin10_ : ¬ ((2 : Int32) < 0 ∨ cl10_.slots.size ≤ ((2 : Int32)).toNatClampNeg) := inb_of S10_ ⟨by decide, by decide⟩
  refine Runs.st (X0.baloadBytes hx (j := (2 : Int32)) (v := (.int x2)) (by rw [e0]; exact Ar10_.1) (State.isArrayOf_alike hZ.alike Ar10_.2.1) Ar10_.2.2 hin10_ (Ha10_.at hin10_ rfl) (g := (mkF m 17 #[.val (.ref b), .val (.ref d), .val (.int (2 : Int32))] [(.int (2 : Int32)), (.ref b)])) rfl rfl (hb hby d_jdk_43_method_13_17)) ?_
  show Runs p.tables e below _ (s₁.setTop (mkF m 18 #[.val (.ref b), .val (.ref d), .val (.int (2 : Int32))] [(.int x2)]))
  refine Runs.st (fun t' k' => XS.aloadN X0.here hx rfl (hb hby d_jdk_43_method_13_18) rfl rfl k') ?_
  refine Runs.st (fun t' k' => XS.iloadN X0.here hx rfl (hb hby d_jdk_43_method_13_19) rfl k') ?_
  obtain ⟨cl11_, Ar11_, -, S11_, M11_, Ha11_, -⟩ := id V2
  have hin11_ : ¬ ((2 : Int32) < 0 ∨ cl11_.slots.size ≤ ((2 : Int32)).toNatClampNeg) := inb_of S11_ ⟨by decide, by decide⟩
  refine Runs.st (X0.baloadBytes hx (j := (2 : Int32)) (v := (.int (100 : Int32))) (by rw [e0]; exact Ar11_.1) (State.isArrayOf_alike hZ.alike Ar11_.2.1) Ar11_.2.2 hin11_ (Ha11_.at hin11_ rfl) (g := (mkF m 20 #[.val (.ref b), .val (.ref d), .val (.int (2 : Int32))] [(.int (2 : Int32)), (.ref d), (.int x2)])) rfl rfl (hb hby d_jdk_43_method_13_20)) ?_
  show Runs p.tables e below _ (s₁.setTop (mkF m 21 #[.val (.ref b), .val (.ref d), .val (.int (2 : Int32))] [(.int (100 : Int32)), (.int x2)]))
  refine Runs.st (fun t' k' => XS.icmpYes X0.here hx rfl (pc0 := 21) (pc' := 26) rfl (hb hby d_jdk_43_method_13_21) rfl (teq y2).1 (by decide) (by decide) k') ?_
  show Runs p.tables e below _ (s₁.setTop (mkF m 26 #[.val (.ref b), .val (.ref d), .val (.int (2 : Int32))] []))
  refine Runs.st (fun t' k' => XS.iinc X0.here hx rfl (hb hby d_jdk_43_method_13_26) rfl (l' := #[.val (.ref b), .val (.ref d), .val (.int ((2 : Int32) + (1 : Int32)))]) rfl k') ?_
  show Runs p.tables e below _ (s₁.setTop (mkF m 29 #[.val (.ref b), .val (.ref d), .val (.int ((2 : Int32) + (1 : Int32)))] []))
  rw [show ((2 : Int32) + (1 : Int32)) = (3 : Int32) from rfl]
  show Runs p.tables e below _ (s₁.setTop (mkF m 29 #[.val (.ref b), .val (.ref d), .val (.int (3 : Int32))] []))
  refine Runs.st (fun t' k' => XS.goto X0.here hx rfl (pc0 := 29) (pc' := 9) rfl (hb hby d_jdk_43_method_13_29) (by decide) (by decide) k') ?_
  refine Runs.st (fun t' k' => XS.iloadN X0.here hx rfl (hb hby d_jdk_43_method_13_9) rfl k') ?_
  refine Runs.st (fun t' k' => XS.aloadN X0.here hx rfl (hb hby d_jdk_43_method_13_10) rfl rfl k') ?_
  obtain ⟨cl12_, Ar12_, -, S12_, M12_, -, -⟩ := id V1
  refine Runs.st (X0.arraylength hx (by rw [e0]; exact Ar12_.1) (State.isArrayOf_alike hZ.alike Ar12_.2.1) (g := (mkF m 11 #[.val (.ref b), .val (.ref d), .val (.int (3 : Int32))] [(.ref b), (.int (3 : Int32))])) rfl rfl (hb hby d_jdk_43_method_13_11)) ?_
  rw [len_of S12_ M12_]
  show Runs p.tables e below _ (s₁.setTop (mkF m 12 #[.val (.ref b), .val (.ref d), .val (.int (3 : Int32))] [(.int (5 : Int32)), (.int (3 : Int32))]))
  refine Runs.st (fun t' k' => XS.icmpNo X0.here hx rfl (hb hby d_jdk_43_method_13_12) rfl (tlt (by decide)).2.1 k') ?_
  show Runs p.tables e below _ (s₁.setTop (mkF m 15 #[.val (.ref b), .val (.ref d), .val (.int (3 : Int32))] []))
  refine Runs.st (fun t' k' => XS.aloadN X0.here hx rfl (hb hby d_jdk_43_method_13_15) rfl rfl k') ?_
  refine Runs.st (fun t' k' => XS.iloadN X0.here hx rfl (hb hby d_jdk_43_method_13_16) rfl k') ?_
  obtain ⟨cl13_, Ar13_, -, S13_, M13_, Ha13_, -⟩ := id V1
  have hin13_ : ¬ ((3 : Int32) < 0 ∨ cl13_.slots.size ≤ ((3 : Int32)).toNatClampNeg) := inb_of S13_ ⟨by decide, by decide⟩
  refine Runs.st (X0.baloadBytes hx (j := (3 : Int32)) (v := (.int x3)) (by rw [e0]; exact Ar13_.1) (State.isArrayOf_alike hZ.alike Ar13_.2.1) Ar13_.2.2 hin13_ (Ha13_.at hin13_ rfl) (g := (mkF m 17 #[.val (.ref b), .val (.ref d), .val (.int (3 : Int32))] [(.int (3 : Int32)), (.ref b)])) rfl rfl (hb hby d_jdk_43_method_13_17)) ?_
  show Runs p.tables e below _ (s₁.setTop (mkF m 18 #[.val (.ref b), .val (.ref d), .val (.int (3 : Int32))] [(.int x3)]))
  refine Runs.st (fun t' k' => XS.aloadN X0.here hx rfl (hb hby d_jdk_43_method_13_18) rfl rfl k') ?_
  refine Runs.st (fun t' k' => XS.iloadN X0.here hx rfl (hb hby d_jdk_43_method_13_19) rfl k') ?_
  obtain ⟨cl14_, Ar14_, -, S14_, M14_, Ha14_, -⟩ := id V2
  have hin14_ : ¬ ((3 : Int32) < 0 ∨ cl14_.slots.size ≤ ((3 : Int32)).toNatClampNeg) := inb_of S14_ ⟨by decide, by decide⟩
  refine Runs.st (X0.baloadBytes hx (j := (3 : Int32)) (v := (.int (105 : Int32))) (by rw [e0]; exact Ar14_.1) (State.isArrayOf_alike hZ.alike Ar14_.2.1) Ar14_.2.2 hin14_ (Ha14_.at hin14_ rfl) (g := (mkF m 20 #[.val (.ref b), .val (.ref d), .val (.int (3 : Int32))] [(.int (3 : Int32)), (.ref d), (.int x3)])) rfl rfl (hb hby d_jdk_43_method_13_20)) ?_
  show Runs p.tables e below _ (s₁.setTop (mkF m 21 #[.val (.ref b), .val (.ref d), .val (.int (3 : Int32))] [(.int (105 : Int32)), (.int x3)]))
  refine Runs.st (fun t' k' => XS.icmpYes X0.here hx rfl (pc0 := 21) (pc' := 26) rfl (hb hby d_jdk_43_method_13_21) rfl (teq y3).1 (by decide) (by decide) k') ?_
  show Runs p.tables e below _ (s₁.setTop (mkF m 26 #[.val (.ref b), .val (.ref d), .val (.int (3 : Int32))] []))
  refine Runs.st (fun t' k' => XS.iinc X0.here hx rfl (hb hby d_jdk_43_method_13_26) rfl (l' := #[.val (.ref b), .val (.ref d), .val (.int ((3 : Int32) + (1 : Int32)))]) rfl k') ?_
  show Runs p.tables e below _ (s₁.setTop (mkF m 29 #[.val (.ref b), .val (.ref d), .val (.int ((3 : Int32) + (1 : Int32)))] []))
  rw [show ((3 : Int32) + (1 : Int32)) = (4 : Int32) from rfl]
  show Runs p.tables e below _ (s₁.setTop (mkF m 29 #[.val (.ref b), .val (.ref d), .val (.int (4 : Int32))] []))
  refine Runs.st (fun t' k' => XS.goto X0.here hx rfl (pc0 := 29) (pc' := 9) rfl (hb hby d_jdk_43_method_13_29) (by decide) (by decide) k') ?_
  refine Runs.st (fun t' k' => XS.iloadN X0.here hx rfl (hb hby d_jdk_43_method_13_9) rfl k') ?_
  refine Runs.st (fun t' k' => XS.aloadN X0.here hx rfl (hb hby d_jdk_43_method_13_10) rfl rfl k') ?_
  obtain ⟨cl15_, Ar15_, -, S15_, M15_, -, -⟩ := id V1
  refine Runs.st (X0.arraylength hx (by rw [e0]; exact Ar15_.1) (State.isArrayOf_alike hZ.alike Ar15_.2.1) (g := (mkF m 11 #[.val (.ref b), .val (.ref d), .val (.int (4 : Int32))] [(.ref b), (.int (4 : Int32))])) rfl rfl (hb hby d_jdk_43_method_13_11)) ?_
  rw [len_of S15_ M15_]
  show Runs p.tables e below _ (s₁.setTop (mkF m 12 #[.val (.ref b), .val (.ref d), .val (.int (4 : Int32))] [(.int (5 : Int32)), (.int (4 : Int32))]))
  refine Runs.st (fun t' k' => XS.icmpNo X0.here hx rfl (hb hby d_jdk_43_method_13_12) rfl (tlt (by decide)).2.1 k') ?_
  show Runs p.tables e below _ (s₁.setTop (mkF m 15 #[.val (.ref b), .val (.ref d), .val (.int (4 : Int32))] []))
  refine Runs.st (fun t' k' => XS.aloadN X0.here hx rfl (hb hby d_jdk_43_method_13_15) rfl rfl k') ?_
  refine Runs.st (fun t' k' => XS.iloadN X0.here hx rfl (hb hby d_jdk_43_method_13_16) rfl k') ?_
  obtain ⟨cl16_, Ar16_, -, S16_, M16_, Ha16_, -⟩ := id V1
  have hin16_ : ¬ ((4 : Int32) < 0 ∨ cl16_.slots.size ≤ ((4 : Int32)).toNatClampNeg) := inb_of S16_ ⟨by decide, by decide⟩
  refine Runs.st (X0.baloadBytes hx (j := (4 : Int32)) (v := (.int x4)) (by rw [e0]; exact Ar16_.1) (State.isArrayOf_alike hZ.alike Ar16_.2.1) Ar16_.2.2 hin16_ (Ha16_.at hin16_ rfl) (g := (mkF m 17 #[.val (.ref b), .val (.ref d), .val (.int (4 : Int32))] [(.int (4 : Int32)), (.ref b)])) rfl rfl (hb hby d_jdk_43_method_13_17)) ?_
  show Runs p.tables e below _ (s₁.setTop (mkF m 18 #[.val (.ref b), .val (.ref d), .val (.int (4 : Int32))] [(.int x4)]))
  refine Runs.st (fun t' k' => XS.aloadN X0.here hx rfl (hb hby d_jdk_43_method_13_18) rfl rfl k') ?_
  refine Runs.st (fun t' k' => XS.iloadN X0.here hx rfl (hb hby d_jdk_43_method_13_19) rfl k') ?_
  obtain ⟨cl17_, Ar17_, -, S17_, M17_, Ha17_, -⟩ := id V2
  have hin17_ : ¬ ((4 : Int32) < 0 ∨ cl17_.slots.size ≤ ((4 : Int32)).toNatClampNeg) := inb_of S17_ ⟨by decide, by decide⟩
  refine Runs.st (X0.baloadBytes hx (j := (4 : Int32)) (v := (.int (115 : Int32))) (by rw [e0]; exact Ar17_.1) (State.isArrayOf_alike hZ.alike Ar17_.2.1) Ar17_.2.2 hin17_ (Ha17_.at hin17_ rfl) (g := (mkF m 20 #[.val (.ref b), .val (.ref d), .val (.int (4 : Int32))] [(.int (4 : Int32)), (.ref d), (.int x4)])) rfl rfl (hb hby d_jdk_43_method_13_20)) ?_
  show Runs p.tables e below _ (s₁.setTop (mkF m 21 #[.val (.ref b), .val (.ref d), .val (.int (4 : Int32))] [(.int (115 : Int32)), (.int x4)]))
  refine Runs.st (fun t' k' => XS.icmpYes X0.here hx rfl (pc0 := 21) (pc' := 26) rfl (hb hby d_jdk_43_method_13_21) rfl (teq y4).1 (by decide) (by decide) k') ?_
  show Runs p.tables e below _ (s₁.setTop (mkF m 26 #[.val (.ref b), .val (.ref d), .val (.int (4 : Int32))] []))
  refine Runs.st (fun t' k' => XS.iinc X0.here hx rfl (hb hby d_jdk_43_method_13_26) rfl (l' := #[.val (.ref b), .val (.ref d), .val (.int ((4 : Int32) + (1 : Int32)))]) rfl k') ?_
  show Runs p.tables e below _ (s₁.setTop (mkF m 29 #[.val (.ref b), .val (.ref d), .val (.int ((4 : Int32) + (1 : Int32)))] []))
  rw [show ((4 : Int32) + (1 : Int32)) = (5 : Int32) from rfl]
  show Runs p.tables e below _ (s₁.setTop (mkF m 29 #[.val (.ref b), .val (.ref d), .val (.int (5 : Int32))] []))
  refine Runs.st (fun t' k' => XS.goto X0.here hx rfl (pc0 := 29) (pc' := 9) rfl (hb hby d_jdk_43_method_13_29) (by decide) (by decide) k') ?_
  refine Runs.st (fun t' k' => XS.iloadN X0.here hx rfl (hb hby d_jdk_43_method_13_9) rfl k') ?_
  refine Runs.st (fun t' k' => XS.aloadN X0.here hx rfl (hb hby d_jdk_43_method_13_10) rfl rfl k') ?_
  obtain ⟨cl18_, Ar18_, -, S18_, M18_, -, -⟩ := id V1
  refine Runs.st (X0.arraylength hx (by rw [e0]; exact Ar18_.1) (State.isArrayOf_alike hZ.alike Ar18_.2.1) (g := (mkF m 11 #[.val (.ref b), .val (.ref d), .val (.int (5 : Int32))] [(.ref b), (.int (5 : Int32))])) rfl rfl (hb hby d_jdk_43_method_13_11)) ?_
  rw [len_of S18_ M18_]
  show Runs p.tables e below _ (s₁.setTop (mkF m 12 #[.val (.ref b), .val (.ref d), .val (.int (5 : Int32))] [(.int (5 : Int32)), (.int (5 : Int32))]))
  refine Runs.st (fun t' k' => XS.icmpYes X0.here hx rfl (pc0 := 12) (pc' := 32) rfl (hb hby d_jdk_43_method_13_12) rfl (flt (by decide)).2.1 (by decide) (by decide) k') ?_
  show Runs p.tables e below _ (s₁.setTop (mkF m 32 #[.val (.ref b), .val (.ref d), .val (.int (5 : Int32))] []))
  refine Runs.st (fun t' k' => XS.iconst X0.here hx rfl (hb hby d_jdk_43_method_13_32) k') ?_
  refine Runs.ret X0 hlk (v := (some (.int (1 : Int32)))) (fun h => by rw [hret] at h; cases h) (by decide) (by decide) ?_ (fun fs hr => retN X0 hx (t := .boolean) hret (by simp) (hb hby d_jdk_43_method_13_33) hr)
  try rw [e0]
  exact ⟨rfl, N0, rfl⟩
def Q_rmSA (Z : State) (a : Addr) (oo : Addr) (zc : Int32) (b d : Addr) (k1 kv0 : ClassId) (x0 x1 x2 x3 x4 : Int32) (h0 : Heap) (n0 : Nat) : Option Value → Heap → List Loc → Prop := (fun v h L => v = some (.int (1 : Int32)) ∧ Fr n0 L ∧ h = h0)
theorem d_jdk_42_method_66_50 : decode jdk_42_method_66_code 50 = .ok (.iconst 1, 1) := by decide +kernel
theorem d_jdk_42_method_66_51 : decode jdk_42_method_66_code 51 = .ok (.goto 4, 3) := by decide +kernel
set_option maxRecDepth 65536 in
set_option maxHeartbeats 40000000 in
theorem rmSA (l : Launch) (Z : State) (a0 : Array Value) (hw : ∀ d ∈ tables_1, d.before a0 Z = true) (ws : List Jvm.Cond) (a : Addr) (oo : Addr) (zc : Int32) (b d : Addr) (k1 kv0 : ClassId) (x0 x1 x2 x3 x4 : Int32) (h0 : Heap) (n0 : Nat) (Z0 : n0 ≤ h0.size) (hne : a ≠ oo) (Sc : Sta Z h0 "java/lang/String" "COMPACT_STRINGS" "Z" (.int zc)) (hzc : ¬ zc = 0) (Ea : Exa Z h0 a "java/lang/String") (Ca : Fld Z h0 a "java/lang/String" "coder" "B" (.int (0 : Int32))) (Va : Fld Z h0 a "java/lang/String" "value" "[B" (.ref b)) (Eo : Exa Z h0 oo "java/lang/String") (Co : Fld Z h0 oo "java/lang/String" "coder" "B" (.int (0 : Int32))) (Vo : Fld Z h0 oo "java/lang/String" "value" "[B" (.ref d)) (V1 : Arv Z h0 b k1 .byte (5 : Int32) [(.int x0), (.int x1), (.int x2), (.int x3), (.int x4)] (.int (0 : Int32))) (V0 : Arv Z h0 d kv0 .byte (5 : Int32) [(.int (82 : Int32)), (.int (101 : Int32)), (.int (100 : Int32)), (.int (105 : Int32)), (.int (115 : Int32))] (.int (0 : Int32))) (y0 : x0 = (82 : Int32)) (y1 : x1 = (101 : Int32)) (y2 : x2 = (100 : Int32)) (y3 : x3 = (105 : Int32)) (y4 : x4 = (115 : Int32)) :
    MetFree l (⟨"java/lang/String", "equals", "(Ljava/lang/Object;)Z"⟩ : MethodName) (head1 (Jvm.Cond.code (⟨"java/lang/String", "equals", "(Ljava/lang/Object;)Z"⟩ : MethodName) jdk_42_method_66_code 3 (some .boolean) :: ws) ({ frames := 1, cells := 0, slots := 0, locals := 14 } : Room)) (fun ar_ U => ar_ = #[(.ref a), (.ref oo)] ∧ Z.Warmed39 U.vm ∧ U.heap = h0) (fun _ _ _ _ _ => True) (fun _ U o U' => Phi U (Q_rmSA Z a oo zc b d k1 kv0 x0 x1 x2 x3 x4 h0 n0) ({ frames := 1, cells := 0, slots := 0, locals := 14 } : Room).cells ({ frames := 1, cells := 0, slots := 0, locals := 14 } : Room).slots o U') := by
  refine MetFree.of_bodySF (plainFor_of_name pn_java_lang_String) hisR ?_
  intro p e s m args below meth c s₁ Bd hml0 hP hK
  obtain ⟨rfl, hZ, hh⟩ := hP
  have hx := Bd.exec
  have hby := Bd.bytes
  have hlk := Bd.notSynchronized
  have hml : c.maxLocals = 3 := hml0
  have hown : s.vm.findClass "java/lang/String" = some m.cls := findClass_of_methodNamed Bd.named
  have hown0 := hown
  have hnm := (name_of_methodNamed Bd.named Bd.method).1
  have hret := Bd.returns
  have X0 : Stand p l e ({ frames := 1, cells := 0, slots := 0, locals := 14 } : Room) s m #[(.ref a), (.ref oo)] below meth c s₁ [] 0 0 := Stand.of_body Bd
  have e0 : s₁.heap = h0 := by rw [← hh, Bd.state]; rfl
  have N0 := Fr.nil n0
  have sz := Z0
  have K := Keep.refl h0 []
  show Runs p.tables e below (Phi s (Q_rmSA Z a oo zc b d k1 kv0 x0 x1 x2 x3 x4 h0 n0) ({ frames := 1, cells := 0, slots := 0, locals := 14 } : Room).cells ({ frames := 1, cells := 0, slots := 0, locals := 14 } : Room).slots) _
  refine Runs.st (fun t' k' => castTop (ef_jdk_42_method_66_RR m a oo ) k') ?_
  show Runs p.tables e below _ (s₁.setTop (mkF m 0 #[.val (.ref a), .val (.ref oo), .unset] []))
  refine Runs.st (fun t' k' => XS.aloadN X0.here hx rfl (hb hby d_jdk_42_method_66_0) rfl rfl k') ?_
  refine Runs.st (fun t' k' => XS.aloadN X0.here hx rfl (hb hby d_jdk_42_method_66_1) rfl rfl k') ?_
  refine Runs.st (fun t' k' => Jvm.RoadKit.acmp (g := (mkF m 2 #[.val (.ref a), .val (.ref oo), .unset] [(.ref oo), (.ref a)])) X0 hx rfl rfl rfl (pc0 := 2) (pc' := 7) (same := false) rfl (hb hby d_jdk_42_method_66_2) rfl (decide_eq_false fun q => hne (Value.ref.inj q)) (by decide) (by decide) k') ?_
  show Runs p.tables e below _ (s₁.setTop (mkF m 7 #[.val (.ref a), .val (.ref oo), .unset] []))
  refine Runs.st (fun t' k' => XS.aloadN X0.here hx rfl (hb hby d_jdk_42_method_66_7) rfl rfl k') ?_
  obtain ⟨T1_, X1_, e1_, st1_⟩ := instY X0 hx hZ hown (hw _ (List.mem_of_getElem? (i := 77) rfl)) e0 (Ins.self Eo) (g := (mkF m 8 #[.val (.ref a), .val (.ref oo), .unset] [(.ref oo)])) rfl rfl (hb hby d_jdk_42_method_66_8)
  refine Runs.st (st1_) ?_
  show Runs p.tables e below _ (T1_.setTop (mkF m 11 #[.val (.ref a), .val (.ref oo), .unset] [(.int (1 : Int32))]))
  refine Runs.st (fun t' k' => XS.ifNo X1_.here hx rfl (hb hby d_jdk_42_method_66_11) rfl ((if0 _ _).trans (feq (by decide)).1) k') ?_
  show Runs p.tables e below _ (T1_.setTop (mkF m 14 #[.val (.ref a), .val (.ref oo), .unset] []))
  refine Runs.st (fun t' k' => XS.aloadN X1_.here hx rfl (hb hby d_jdk_42_method_66_14) rfl rfl k') ?_
  obtain ⟨T2_, X2_, e2_, st2_⟩ := castY X1_ hx hZ hown (hw _ (List.mem_of_getElem? (i := 77) rfl)) e1_ (Ins.self Eo) (g := (mkF m 15 #[.val (.ref a), .val (.ref oo), .unset] [(.ref oo)])) rfl rfl (hb hby d_jdk_42_method_66_15)
  refine Runs.st (st2_) ?_
  show Runs p.tables e below _ (T2_.setTop (mkF m 18 #[.val (.ref a), .val (.ref oo), .unset] [(.ref oo)]))
  refine Runs.st (fun t' k' => XS.astoreN X2_.here hx rfl (hb hby d_jdk_42_method_66_18) rfl rfl (l' := #[.val (.ref a), .val (.ref oo), .val (.ref oo)]) rfl k') ?_
  obtain ⟨T3_, X3_, e3_, st3_⟩ := getS2 X2_ hx hZ hown (host := "") (Or.inl (hw _ (List.mem_of_getElem? (i := 15) rfl))) Via.refl e2_ Sc (g := (mkF m 19 #[.val (.ref a), .val (.ref oo), .val (.ref oo)] [])) rfl (hb hby d_jdk_42_method_66_19)
  refine Runs.st (st3_) ?_
  show Runs p.tables e below _ (T3_.setTop (mkF m 22 #[.val (.ref a), .val (.ref oo), .val (.ref oo)] [(.int zc)]))
  refine Runs.st (fun t' k' => XS.ifNo X3_.here hx rfl (hb hby d_jdk_42_method_66_22) rfl ((if0 _ _).trans (feq hzc).1) k') ?_
  show Runs p.tables e below _ (T3_.setTop (mkF m 25 #[.val (.ref a), .val (.ref oo), .val (.ref oo)] []))
  refine Runs.st (fun t' k' => XS.aloadN X3_.here hx rfl (hb hby d_jdk_42_method_66_25) rfl rfl k') ?_
  obtain ⟨T4_, X4_, e4_, st4_⟩ := getF X3_ hx hZ hown (host := "") (Or.inl (hw _ (List.mem_of_getElem? (i := 27) rfl))) Via.refl e3_ Ca (g := (mkF m 26 #[.val (.ref a), .val (.ref oo), .val (.ref oo)] [(.ref a)])) rfl rfl (hb hby d_jdk_42_method_66_26)
  refine Runs.st (st4_) ?_
  show Runs p.tables e below _ (T4_.setTop (mkF m 29 #[.val (.ref a), .val (.ref oo), .val (.ref oo)] [(.int (0 : Int32))]))
  refine Runs.st (fun t' k' => XS.aloadN X4_.here hx rfl (hb hby d_jdk_42_method_66_29) rfl rfl k') ?_
  obtain ⟨T5_, X5_, e5_, st5_⟩ := getF X4_ hx hZ hown (host := "") (Or.inl (hw _ (List.mem_of_getElem? (i := 27) rfl))) Via.refl e4_ Co (g := (mkF m 30 #[.val (.ref a), .val (.ref oo), .val (.ref oo)] [(.ref oo), (.int (0 : Int32))])) rfl rfl (hb hby d_jdk_42_method_66_30)
  refine Runs.st (st5_) ?_
  show Runs p.tables e below _ (T5_.setTop (mkF m 33 #[.val (.ref a), .val (.ref oo), .val (.ref oo)] [(.int (0 : Int32)), (.int (0 : Int32))]))
  refine Runs.st (fun t' k' => XS.icmpNo X5_.here hx rfl (hb hby d_jdk_42_method_66_33) rfl (teq rfl).2 k') ?_
  show Runs p.tables e below _ (T5_.setTop (mkF m 36 #[.val (.ref a), .val (.ref oo), .val (.ref oo)] []))
  refine Runs.st (fun t' k' => XS.aloadN X5_.here hx rfl (hb hby d_jdk_42_method_66_36) rfl rfl k') ?_
  obtain ⟨T6_, X6_, e6_, st6_⟩ := getF X5_ hx hZ hown (host := "") (Or.inl (hw _ (List.mem_of_getElem? (i := 29) rfl))) Via.refl e5_ Va (g := (mkF m 37 #[.val (.ref a), .val (.ref oo), .val (.ref oo)] [(.ref a)])) rfl rfl (hb hby d_jdk_42_method_66_37)
  refine Runs.st (st6_) ?_
  show Runs p.tables e below _ (T6_.setTop (mkF m 40 #[.val (.ref a), .val (.ref oo), .val (.ref oo)] [(.ref b)]))
  refine Runs.st (fun t' k' => XS.aloadN X6_.here hx rfl (hb hby d_jdk_42_method_66_40) rfl rfl k') ?_
  obtain ⟨T7_, X7_, e7_, st7_⟩ := getF X6_ hx hZ hown (host := "") (Or.inl (hw _ (List.mem_of_getElem? (i := 29) rfl))) Via.refl e6_ Vo (g := (mkF m 41 #[.val (.ref a), .val (.ref oo), .val (.ref oo)] [(.ref oo), (.ref b)])) rfl rfl (hb hby d_jdk_42_method_66_41)
  refine Runs.st (st7_) ?_
  show Runs p.tables e below _ (T7_.setTop (mkF m 44 #[.val (.ref a), .val (.ref oo), .val (.ref oo)] [(.ref d), (.ref b)]))
  obtain ⟨_, _, ⟨T8_, L8_, k8_, n8_⟩, -, X8_, ⟨Lc8_, hQ8_, l8_, y8_, z8_⟩, st8_⟩ := Jvm.LawKit.callS X7_ hx (y := (⟨"java/lang/StringLatin1", "equals", "([B[B)Z"⟩ : MethodName)) hown (mvT hZ (hw _ (List.mem_of_getElem? (i := 78) rfl))) (mvT hZ (hw _ (List.mem_of_getElem? (i := 79) rfl))) (mvT hZ (hw _ (List.mem_of_getElem? (i := 53) rfl))) (mvT hZ (hw _ (List.mem_of_getElem? (i := 80) rfl))) (by decide) (backOf (W := 0) (rmLA l Z a0 hw [] b d k1 kv0 x0 x1 x2 x3 x4 h0 n0 sz V1 V0 y0 y1 y2 y3 y4) hZ (hw _ (List.mem_of_getElem? (i := 80) rfl)) (hw _ (List.mem_of_getElem? (i := 53) rfl)) (by decide) (by decide)) (g := (mkF m 44 #[.val (.ref a), .val (.ref oo), .val (.ref oo)] [(.ref d), (.ref b)])) rfl (by rw [hml]; rfl) (argsL := [(.ref b), (.ref d)]) (rest := []) (lenOf pd__28_5bB_5bB_29Z rfl) rfl (by show 2 * 0 + _ ≤ _; exact Nat.le_of_eq rfl) (hb hby d_jdk_42_method_66_44) (fun _ _ => ⟨rfl, e7_, (by decide : 0 + 0 ≤ _), (by decide : 0 + 0 ≤ _)⟩)
  dsimp only [Pt.U, Pt.locs, Pt.cells, Pt.slots] at X8_ l8_ y8_ z8_ st8_ hQ8_
  subst l8_ y8_ z8_
  obtain ⟨rfl, N8_q, e8_⟩ := hQ8_
  have N8_ := Fr.app N0 N8_q
  refine Runs.st (st8_) ?_
  replace X8_ := wider X8_ (c' := 0) (s' := 0) (by decide) (by decide)
  show Runs p.tables e below _ (T8_.setTop (mkF m 47 #[.val (.ref a), .val (.ref oo), .val (.ref oo)] [(.int (1 : Int32))]))
  refine Runs.st (fun t' k' => XS.ifNo X8_.here hx rfl (hb hby d_jdk_42_method_66_47) rfl ((if0 _ _).trans (feq (by decide)).1) k') ?_
  show Runs p.tables e below _ (T8_.setTop (mkF m 50 #[.val (.ref a), .val (.ref oo), .val (.ref oo)] []))
  refine Runs.st (fun t' k' => XS.iconst X8_.here hx rfl (hb hby d_jdk_42_method_66_50) k') ?_
  refine Runs.st (fun t' k' => XS.goto X8_.here hx rfl (pc0 := 51) (pc' := 55) rfl (hb hby d_jdk_42_method_66_51) (by decide) (by decide) k') ?_
  refine Runs.ret X8_ hlk (v := (some (.int (1 : Int32)))) (fun h => by rw [hret] at h; cases h) (by decide) (by decide) ?_ (fun fs hr => retN X8_ hx (t := .boolean) hret (by simp) (hb hby d_jdk_42_method_66_55) hr)
  try rw [e8_]
  exact ⟨rfl, N8_, rfl⟩
def Q_rmSS (Z : State) (a : Addr)  (h0 : Heap) (n0 : Nat) : Option Value → Heap → List Loc → Prop := (fun v h L => v = some (.int (1 : Int32)) ∧ Fr n0 L ∧ h = h0)
theorem d_jdk_42_method_66_5 : decode jdk_42_method_66_code 5 = .ok (.iconst 1, 1) := by decide +kernel
theorem d_jdk_42_method_66_6 : decode jdk_42_method_66_code 6 = .ok (.ireturn, 1) := by decide +kernel
set_option maxRecDepth 65536 in
set_option maxHeartbeats 40000000 in
theorem rmSS (l : Launch) (Z : State) (a0 : Array Value) (hw : ∀ d ∈ tables_1, d.before a0 Z = true) (ws : List Jvm.Cond) (a : Addr)  (h0 : Heap) (n0 : Nat) (Z0 : n0 ≤ h0.size)  :
    MetFree l (⟨"java/lang/String", "equals", "(Ljava/lang/Object;)Z"⟩ : MethodName) (head1 (Jvm.Cond.code (⟨"java/lang/String", "equals", "(Ljava/lang/Object;)Z"⟩ : MethodName) jdk_42_method_66_code 3 (some .boolean) :: ws) ({ frames := 0, cells := 0, slots := 0, locals := 0 } : Room)) (fun ar_ U => ar_ = #[(.ref a), (.ref a)] ∧ Z.Warmed39 U.vm ∧ U.heap = h0) (fun _ _ _ _ _ => True) (fun _ U o U' => Phi U (Q_rmSS Z a h0 n0) ({ frames := 0, cells := 0, slots := 0, locals := 0 } : Room).cells ({ frames := 0, cells := 0, slots := 0, locals := 0 } : Room).slots o U') := by
  refine MetFree.of_bodySF (plainFor_of_name pn_java_lang_String) hisR ?_
  intro p e s m args below meth c s₁ Bd hml0 hP hK
  obtain ⟨rfl, hZ, hh⟩ := hP
  have hx := Bd.exec
  have hby := Bd.bytes
  have hlk := Bd.notSynchronized
  have hml : c.maxLocals = 3 := hml0
  have hown : s.vm.findClass "java/lang/String" = some m.cls := findClass_of_methodNamed Bd.named
  have hown0 := hown
  have hnm := (name_of_methodNamed Bd.named Bd.method).1
  have hret := Bd.returns
  have X0 : Stand p l e ({ frames := 0, cells := 0, slots := 0, locals := 0 } : Room) s m #[(.ref a), (.ref a)] below meth c s₁ [] 0 0 := Stand.of_body Bd
  have e0 : s₁.heap = h0 := by rw [← hh, Bd.state]; rfl
  have N0 := Fr.nil n0
  have sz := Z0
  have K := Keep.refl h0 []
  show Runs p.tables e below (Phi s (Q_rmSS Z a h0 n0) ({ frames := 0, cells := 0, slots := 0, locals := 0 } : Room).cells ({ frames := 0, cells := 0, slots := 0, locals := 0 } : Room).slots) _
  refine Runs.st (fun t' k' => castTop (ef_jdk_42_method_66_RR m a a ) k') ?_
  show Runs p.tables e below _ (s₁.setTop (mkF m 0 #[.val (.ref a), .val (.ref a), .unset] []))
  refine Runs.st (fun t' k' => XS.aloadN X0.here hx rfl (hb hby d_jdk_42_method_66_0) rfl rfl k') ?_
  refine Runs.st (fun t' k' => XS.aloadN X0.here hx rfl (hb hby d_jdk_42_method_66_1) rfl rfl k') ?_
  refine Runs.st (fun t' k' => Jvm.RoadKit.acmp (g := (mkF m 2 #[.val (.ref a), .val (.ref a), .unset] [(.ref a), (.ref a)])) X0 hx rfl rfl rfl (pc0 := 2) (pc' := 5) (same := true) rfl (hb hby d_jdk_42_method_66_2) rfl (decide_eq_true rfl) (by decide) (by decide) k') ?_
  show Runs p.tables e below _ (s₁.setTop (mkF m 5 #[.val (.ref a), .val (.ref a), .unset] []))
  refine Runs.st (fun t' k' => XS.iconst X0.here hx rfl (hb hby d_jdk_42_method_66_5) k') ?_
  refine Runs.ret X0 hlk (v := (some (.int (1 : Int32)))) (fun h => by rw [hret] at h; cases h) (by decide) (by decide) ?_ (fun fs hr => retN X0 hx (t := .boolean) hret (by simp) (hb hby d_jdk_42_method_66_6) hr)
  try rw [e0]
  exact ⟨rfl, N0, rfl⟩
def Q_rmOS (Z : State) (s0 : Addr) (oe om : Addr)  (h0 : Heap) (n0 : Nat) : Option Value → Heap → List Loc → Prop := (fun v h L => v = some (.ref oe) ∧ Fr n0 L ∧ h = h0)
theorem pn_com_example_standing_order_standingorder_api_InstanceForm : plainName "com/example/standing_order/standingorder/api/InstanceForm" = true := by first | (simp [plainName, overriddenIn]; done) | decide +kernel
theorem ef_prog_4_method_4_R (m : MethodId) (x0 : Addr)  : entryFrame m #[(.ref x0)] 1 = mkF m 0 #[.val (.ref x0)] [] := by first | (simp [entryFrame, mkF, argsToLocals, Value.category]; done) | rfl
theorem d_prog_4_method_4_0 : decode prog_4_method_4_code 0 = .ok (.aload_n 0, 1) := by decide +kernel
theorem d_prog_4_method_4_1 : decode prog_4_method_4_code 1 = .ok (.getstatic 7, 3) := by decide +kernel
theorem d_prog_4_method_4_4 : decode prog_4_method_4_code 4 = .ok (.getfield 29, 3) := by decide +kernel
theorem pd__28Ljava_2flang_2fObject_3b_29Z : parseMethodDescriptor "(Ljava/lang/Object;)Z" = some ⟨[(.object "java/lang/Object")], some .boolean⟩ := by decide +kernel
theorem d_prog_4_method_4_7 : decode prog_4_method_4_code 7 = .ok (.invokevirtual 48, 3) := by decide +kernel
theorem d_prog_4_method_4_10 : decode prog_4_method_4_code 10 = .ok (.ifCond .eq 9, 3) := by decide +kernel
theorem d_prog_4_method_4_13 : decode prog_4_method_4_code 13 = .ok (.getstatic 7, 3) := by decide +kernel
theorem d_prog_4_method_4_16 : decode prog_4_method_4_code 16 = .ok (.goto 6, 3) := by decide +kernel
theorem d_prog_4_method_4_22 : decode prog_4_method_4_code 22 = .ok (.areturn, 1) := by decide +kernel
set_option maxRecDepth 65536 in
set_option maxHeartbeats 40000000 in
theorem rmOS (l : Launch) (Z : State) (a0 : Array Value) (hw : ∀ d ∈ tables_1, d.before a0 Z = true) (ws : List Jvm.Cond) (s0 : Addr) (oe om : Addr)  (h0 : Heap) (n0 : Nat) (Z0 : n0 ≤ h0.size) (S0 : Sta Z h0 "com/example/standing_order/standingorder/api/InstanceForm" "REDIS" "Lcom/example/standing_order/standingorder/api/InstanceForm;" (.ref oe)) (S1 : Sta Z h0 "com/example/standing_order/standingorder/api/InstanceForm" "MONGODB" "Lcom/example/standing_order/standingorder/api/InstanceForm;" (.ref om)) (Fs0 : Fld Z h0 oe "com/example/standing_order/standingorder/api/InstanceForm" "engine" "Ljava/lang/String;" (.ref s0)) (Es0 : Exa Z h0 s0 "java/lang/String") :
    MetFree l (⟨"com/example/standing_order/standingorder/api/InstanceForm", "ofEngine", "(Ljava/lang/String;)Lcom/example/standing_order/standingorder/api/InstanceForm;"⟩ : MethodName) (head1 (Jvm.Cond.code (⟨"com/example/standing_order/standingorder/api/InstanceForm", "ofEngine", "(Ljava/lang/String;)Lcom/example/standing_order/standingorder/api/InstanceForm;"⟩ : MethodName) prog_4_method_4_code 1 (some (.object "com/example/standing_order/standingorder/api/InstanceForm")) :: ws) ({ frames := 2, cells := 0, slots := 0, locals := 28 } : Room)) (fun ar_ U => ar_ = #[(.ref s0)] ∧ Z.Warmed39 U.vm ∧ U.heap = h0) (fun _ _ _ _ _ => True) (fun _ U o U' => Phi U (Q_rmOS Z s0 oe om h0 n0) ({ frames := 2, cells := 0, slots := 0, locals := 28 } : Room).cells ({ frames := 2, cells := 0, slots := 0, locals := 28 } : Room).slots o U') := by
  refine MetFree.of_bodySF (plainFor_of_name pn_com_example_standing_order_standingorder_api_InstanceForm) hisR ?_
  intro p e s m args below meth c s₁ Bd hml0 hP hK
  obtain ⟨rfl, hZ, hh⟩ := hP
  have hx := Bd.exec
  have hby := Bd.bytes
  have hlk := Bd.notSynchronized
  have hml : c.maxLocals = 1 := hml0
  have hown : s.vm.findClass "com/example/standing_order/standingorder/api/InstanceForm" = some m.cls := findClass_of_methodNamed Bd.named
  have hown0 := hown
  have hnm := (name_of_methodNamed Bd.named Bd.method).1
  have hret := Bd.returns
  have X0 : Stand p l e ({ frames := 2, cells := 0, slots := 0, locals := 28 } : Room) s m #[(.ref s0)] below meth c s₁ [] 0 0 := Stand.of_body Bd
  have e0 : s₁.heap = h0 := by rw [← hh, Bd.state]; rfl
  have N0 := Fr.nil n0
  have sz := Z0
  have K := Keep.refl h0 []
  show Runs p.tables e below (Phi s (Q_rmOS Z s0 oe om h0 n0) ({ frames := 2, cells := 0, slots := 0, locals := 28 } : Room).cells ({ frames := 2, cells := 0, slots := 0, locals := 28 } : Room).slots) _
  refine Runs.st (fun t' k' => castTop (ef_prog_4_method_4_R m s0 ) k') ?_
  show Runs p.tables e below _ (s₁.setTop (mkF m 0 #[.val (.ref s0)] []))
  refine Runs.st (fun t' k' => XS.aloadN X0.here hx rfl (hb hby d_prog_4_method_4_0) rfl rfl k') ?_
  obtain ⟨T1_, X1_, e1_, st1_⟩ := getS2 X0 hx hZ hown (host := "") (Or.inl (hw _ (List.mem_of_getElem? (i := 69) rfl))) Via.refl e0 S0 (g := (mkF m 1 #[.val (.ref s0)] [(.ref s0)])) rfl (hb hby d_prog_4_method_4_1)
  refine Runs.st (st1_) ?_
  show Runs p.tables e below _ (T1_.setTop (mkF m 4 #[.val (.ref s0)] [(.ref oe), (.ref s0)]))
  obtain ⟨T2_, X2_, e2_, st2_⟩ := getF X1_ hx hZ hown (host := "") (Or.inl (hw _ (List.mem_of_getElem? (i := 70) rfl))) Via.refl e1_ Fs0 (g := (mkF m 4 #[.val (.ref s0)] [(.ref oe), (.ref s0)])) rfl rfl (hb hby d_prog_4_method_4_4)
  refine Runs.st (st2_) ?_
  show Runs p.tables e below _ (T2_.setTop (mkF m 7 #[.val (.ref s0)] [(.ref s0), (.ref s0)]))
  obtain ⟨cq3_, kq3_, q3_a, q3_b, q3_c⟩ := isOf hZ e2_ Es0
  obtain ⟨_, _, ⟨T3_, L3_, k3_, n3_⟩, -, X3_, ⟨Lc3_, hQ3_, l3_, y3_, z3_⟩, st3_⟩ := X2_.virtualBack hx (y := (⟨"java/lang/String", "equals", "(Ljava/lang/Object;)Z"⟩ : MethodName)) (z := (⟨"java/lang/String", "equals", "(Ljava/lang/Object;)Z"⟩ : MethodName)) hown (mvT hZ (hw _ (List.mem_of_getElem? (i := 72) rfl))) (mvT hZ (hw _ (List.mem_of_getElem? (i := 73) rfl))) (notFace_of_selects (args := #[]) (mvT hZ (hw _ (List.mem_of_getElem? (i := 75) rfl)))) (mvT hZ (hw _ (List.mem_of_getElem? (i := 75) rfl))) (mvT hZ (hw _ (List.mem_of_getElem? (i := 74) rfl))) (by decide) (backOf (W := 0) (rmSS l Z a0 hw [] s0 h0 n0 sz) hZ (hw _ (List.mem_of_getElem? (i := 76) rfl)) (hw _ (List.mem_of_getElem? (i := 4) rfl)) (by decide) (by decide)) q3_a q3_c (g := (mkF m 7 #[.val (.ref s0)] [(.ref s0), (.ref s0)])) rfl (by rw [hml]; rfl) (Steps.refl _) (argsL := [(.ref s0)]) (rest := []) (lenOf pd__28Ljava_2flang_2fObject_3b_29Z rfl) rfl (by show 2 * 0 + _ ≤ _; exact Nat.le_of_eq rfl) (hb hby d_prog_4_method_4_7) (fun _ _ => ⟨rfl, e2_, (by decide : 0 + 0 ≤ _), (by decide : 0 + 0 ≤ _)⟩)
  dsimp only [Pt.U, Pt.locs, Pt.cells, Pt.slots] at X3_ l3_ y3_ z3_ st3_ hQ3_
  subst l3_ y3_ z3_
  obtain ⟨rfl, N3_q, e3_⟩ := hQ3_
  have N3_ := Fr.app N0 N3_q
  refine Runs.tr st3_ ?_
  replace X3_ := wider X3_ (c' := 0) (s' := 0) (by decide) (by decide)
  show Runs p.tables e below _ (T3_.setTop (mkF m 10 #[.val (.ref s0)] [(.int (1 : Int32))]))
  refine Runs.st (fun t' k' => XS.ifNo X3_.here hx rfl (hb hby d_prog_4_method_4_10) rfl ((if0 _ _).trans (feq (by decide)).1) k') ?_
  show Runs p.tables e below _ (T3_.setTop (mkF m 13 #[.val (.ref s0)] []))
  obtain ⟨T4_, X4_, e4_, st4_⟩ := getS2 X3_ hx hZ hown (host := "") (Or.inl (hw _ (List.mem_of_getElem? (i := 69) rfl))) Via.refl e3_ S0 (g := (mkF m 13 #[.val (.ref s0)] [])) rfl (hb hby d_prog_4_method_4_13)
  refine Runs.st (st4_) ?_
  show Runs p.tables e below _ (T4_.setTop (mkF m 16 #[.val (.ref s0)] [(.ref oe)]))
  refine Runs.st (fun t' k' => XS.goto X4_.here hx rfl (pc0 := 16) (pc' := 22) rfl (hb hby d_prog_4_method_4_16) (by decide) (by decide) k') ?_
  refine Runs.ret X4_ hlk (v := (some (.ref oe))) (fun h => by rw [hret] at h; cases h) (by decide) (by decide) ?_ (fun fs hr => retOut X4_ hx hret rfl (Or.inr (Or.inr (Or.inr (Or.inr ⟨rfl, rfl, rfl⟩)))) (hb hby d_prog_4_method_4_22) hr)
  try rw [e4_]
  exact ⟨rfl, N3_, rfl⟩
def Q_rmON (Z : State) (a : Addr) (oe om s0 : Addr) (zc : Int32) (b v0 : Addr) (k1 kv0 : ClassId) (n : Int32) (vs : List Value) (h0 : Heap) (n0 : Nat) : Option Value → Heap → List Loc → Prop := (fun v h L => v = some (.ref om) ∧ Fr n0 L ∧ h = h0)
theorem d_prog_4_method_4_19 : decode prog_4_method_4_code 19 = .ok (.getstatic 3, 3) := by decide +kernel
set_option maxRecDepth 65536 in
set_option maxHeartbeats 40000000 in
theorem rmON (l : Launch) (Z : State) (a0 : Array Value) (hw : ∀ d ∈ tables_1, d.before a0 Z = true) (ws : List Jvm.Cond) (a : Addr) (oe om s0 : Addr) (zc : Int32) (b v0 : Addr) (k1 kv0 : ClassId) (n : Int32) (vs : List Value) (h0 : Heap) (n0 : Nat) (Z0 : n0 ≤ h0.size) (S0 : Sta Z h0 "com/example/standing_order/standingorder/api/InstanceForm" "REDIS" "Lcom/example/standing_order/standingorder/api/InstanceForm;" (.ref oe)) (S1 : Sta Z h0 "com/example/standing_order/standingorder/api/InstanceForm" "MONGODB" "Lcom/example/standing_order/standingorder/api/InstanceForm;" (.ref om)) (Fs0 : Fld Z h0 oe "com/example/standing_order/standingorder/api/InstanceForm" "engine" "Ljava/lang/String;" (.ref s0)) (hne : a ≠ s0) (Sc : Sta Z h0 "java/lang/String" "COMPACT_STRINGS" "Z" (.int zc)) (hzc : ¬ zc = 0) (Ea : Exa Z h0 a "java/lang/String") (Ca : Fld Z h0 a "java/lang/String" "coder" "B" (.int (0 : Int32))) (Va : Fld Z h0 a "java/lang/String" "value" "[B" (.ref b)) (Es0 : Exa Z h0 s0 "java/lang/String") (Fc0 : Fld Z h0 s0 "java/lang/String" "coder" "B" (.int (0 : Int32))) (Fv0 : Fld Z h0 s0 "java/lang/String" "value" "[B" (.ref v0)) (V1 : Arv Z h0 b k1 .byte n vs (.int (0 : Int32))) (V0 : Arv Z h0 v0 kv0 .byte (5 : Int32) [(.int (82 : Int32)), (.int (101 : Int32)), (.int (100 : Int32)), (.int (105 : Int32)), (.int (115 : Int32))] (.int (0 : Int32))) (hn : ¬ n = (5 : Int32)) :
    MetFree l (⟨"com/example/standing_order/standingorder/api/InstanceForm", "ofEngine", "(Ljava/lang/String;)Lcom/example/standing_order/standingorder/api/InstanceForm;"⟩ : MethodName) (head1 (Jvm.Cond.code (⟨"com/example/standing_order/standingorder/api/InstanceForm", "ofEngine", "(Ljava/lang/String;)Lcom/example/standing_order/standingorder/api/InstanceForm;"⟩ : MethodName) prog_4_method_4_code 1 (some (.object "com/example/standing_order/standingorder/api/InstanceForm")) :: ws) ({ frames := 2, cells := 0, slots := 0, locals := 28 } : Room)) (fun ar_ U => ar_ = #[(.ref a)] ∧ Z.Warmed39 U.vm ∧ U.heap = h0) (fun _ _ _ _ _ => True) (fun _ U o U' => Phi U (Q_rmON Z a oe om s0 zc b v0 k1 kv0 n vs h0 n0) ({ frames := 2, cells := 0, slots := 0, locals := 28 } : Room).cells ({ frames := 2, cells := 0, slots := 0, locals := 28 } : Room).slots o U') := by
  refine MetFree.of_bodySF (plainFor_of_name pn_com_example_standing_order_standingorder_api_InstanceForm) hisR ?_
  intro p e s m args below meth c s₁ Bd hml0 hP hK
  obtain ⟨rfl, hZ, hh⟩ := hP
  have hx := Bd.exec
  have hby := Bd.bytes
  have hlk := Bd.notSynchronized
  have hml : c.maxLocals = 1 := hml0
  have hown : s.vm.findClass "com/example/standing_order/standingorder/api/InstanceForm" = some m.cls := findClass_of_methodNamed Bd.named
  have hown0 := hown
  have hnm := (name_of_methodNamed Bd.named Bd.method).1
  have hret := Bd.returns
  have X0 : Stand p l e ({ frames := 2, cells := 0, slots := 0, locals := 28 } : Room) s m #[(.ref a)] below meth c s₁ [] 0 0 := Stand.of_body Bd
  have e0 : s₁.heap = h0 := by rw [← hh, Bd.state]; rfl
  have N0 := Fr.nil n0
  have sz := Z0
  have K := Keep.refl h0 []
  show Runs p.tables e below (Phi s (Q_rmON Z a oe om s0 zc b v0 k1 kv0 n vs h0 n0) ({ frames := 2, cells := 0, slots := 0, locals := 28 } : Room).cells ({ frames := 2, cells := 0, slots := 0, locals := 28 } : Room).slots) _
  refine Runs.st (fun t' k' => castTop (ef_prog_4_method_4_R m a ) k') ?_
  show Runs p.tables e below _ (s₁.setTop (mkF m 0 #[.val (.ref a)] []))
  refine Runs.st (fun t' k' => XS.aloadN X0.here hx rfl (hb hby d_prog_4_method_4_0) rfl rfl k') ?_
  obtain ⟨T1_, X1_, e1_, st1_⟩ := getS2 X0 hx hZ hown (host := "") (Or.inl (hw _ (List.mem_of_getElem? (i := 69) rfl))) Via.refl e0 S0 (g := (mkF m 1 #[.val (.ref a)] [(.ref a)])) rfl (hb hby d_prog_4_method_4_1)
  refine Runs.st (st1_) ?_
  show Runs p.tables e below _ (T1_.setTop (mkF m 4 #[.val (.ref a)] [(.ref oe), (.ref a)]))
  obtain ⟨T2_, X2_, e2_, st2_⟩ := getF X1_ hx hZ hown (host := "") (Or.inl (hw _ (List.mem_of_getElem? (i := 70) rfl))) Via.refl e1_ Fs0 (g := (mkF m 4 #[.val (.ref a)] [(.ref oe), (.ref a)])) rfl rfl (hb hby d_prog_4_method_4_4)
  refine Runs.st (st2_) ?_
  show Runs p.tables e below _ (T2_.setTop (mkF m 7 #[.val (.ref a)] [(.ref s0), (.ref a)]))
  obtain ⟨cq3_, kq3_, q3_a, q3_b, q3_c⟩ := isOf hZ e2_ Ea
  obtain ⟨_, _, ⟨T3_, L3_, k3_, n3_⟩, -, X3_, ⟨Lc3_, hQ3_, l3_, y3_, z3_⟩, st3_⟩ := X2_.virtualBack hx (y := (⟨"java/lang/String", "equals", "(Ljava/lang/Object;)Z"⟩ : MethodName)) (z := (⟨"java/lang/String", "equals", "(Ljava/lang/Object;)Z"⟩ : MethodName)) hown (mvT hZ (hw _ (List.mem_of_getElem? (i := 72) rfl))) (mvT hZ (hw _ (List.mem_of_getElem? (i := 73) rfl))) (notFace_of_selects (args := #[]) (mvT hZ (hw _ (List.mem_of_getElem? (i := 75) rfl)))) (mvT hZ (hw _ (List.mem_of_getElem? (i := 75) rfl))) (mvT hZ (hw _ (List.mem_of_getElem? (i := 74) rfl))) (by decide) (backOf (W := 0) (rmSN l Z a0 hw [] a s0 zc b v0 k1 kv0 n vs h0 n0 sz hne Sc hzc Ea Ca Va Es0 Fc0 Fv0 V1 V0 hn) hZ (hw _ (List.mem_of_getElem? (i := 76) rfl)) (hw _ (List.mem_of_getElem? (i := 4) rfl)) (by decide) (by decide)) q3_a q3_c (g := (mkF m 7 #[.val (.ref a)] [(.ref s0), (.ref a)])) rfl (by rw [hml]; rfl) (Steps.refl _) (argsL := [(.ref s0)]) (rest := []) (lenOf pd__28Ljava_2flang_2fObject_3b_29Z rfl) rfl (by show 2 * 0 + _ ≤ _; exact Nat.le_of_eq rfl) (hb hby d_prog_4_method_4_7) (fun _ _ => ⟨rfl, e2_, (by decide : 0 + 0 ≤ _), (by decide : 0 + 0 ≤ _)⟩)
  dsimp only [Pt.U, Pt.locs, Pt.cells, Pt.slots] at X3_ l3_ y3_ z3_ st3_ hQ3_
  subst l3_ y3_ z3_
  obtain ⟨rfl, N3_q, e3_⟩ := hQ3_
  have N3_ := Fr.app N0 N3_q
  refine Runs.tr st3_ ?_
  replace X3_ := wider X3_ (c' := 0) (s' := 0) (by decide) (by decide)
  show Runs p.tables e below _ (T3_.setTop (mkF m 10 #[.val (.ref a)] [(.int (0 : Int32))]))
  refine Runs.st (fun t' k' => XS.ifYes X3_.here hx rfl (pc0 := 10) (pc' := 19) rfl (hb hby d_prog_4_method_4_10) rfl ((if0 _ _).trans (teq rfl).1) (by decide) (by decide) k') ?_
  show Runs p.tables e below _ (T3_.setTop (mkF m 19 #[.val (.ref a)] []))
  obtain ⟨T4_, X4_, e4_, st4_⟩ := getS2 X3_ hx hZ hown (host := "") (Or.inl (hw _ (List.mem_of_getElem? (i := 88) rfl))) Via.refl e3_ S1 (g := (mkF m 19 #[.val (.ref a)] [])) rfl (hb hby d_prog_4_method_4_19)
  refine Runs.st (st4_) ?_
  show Runs p.tables e below _ (T4_.setTop (mkF m 22 #[.val (.ref a)] [(.ref om)]))
  refine Runs.ret X4_ hlk (v := (some (.ref om))) (fun h => by rw [hret] at h; cases h) (by decide) (by decide) ?_ (fun fs hr => retOut X4_ hx hret rfl (Or.inr (Or.inr (Or.inr (Or.inr ⟨rfl, rfl, rfl⟩)))) (hb hby d_prog_4_method_4_22) hr)
  try rw [e4_]
  exact ⟨rfl, N3_, rfl⟩
def Q_rmO0 (Z : State) (a : Addr) (oe om s0 : Addr) (zc : Int32) (b v0 : Addr) (k1 kv0 : ClassId) (x0 x1 x2 x3 x4 : Int32) (h0 : Heap) (n0 : Nat) : Option Value → Heap → List Loc → Prop := (fun v h L => v = some (.ref om) ∧ Fr n0 L ∧ h = h0)
set_option maxRecDepth 65536 in
set_option maxHeartbeats 40000000 in
theorem rmO0 (l : Launch) (Z : State) (a0 : Array Value) (hw : ∀ d ∈ tables_1, d.before a0 Z = true) (ws : List Jvm.Cond) (a : Addr) (oe om s0 : Addr) (zc : Int32) (b v0 : Addr) (k1 kv0 : ClassId) (x0 x1 x2 x3 x4 : Int32) (h0 : Heap) (n0 : Nat) (Z0 : n0 ≤ h0.size) (S0 : Sta Z h0 "com/example/standing_order/standingorder/api/InstanceForm" "REDIS" "Lcom/example/standing_order/standingorder/api/InstanceForm;" (.ref oe)) (S1 : Sta Z h0 "com/example/standing_order/standingorder/api/InstanceForm" "MONGODB" "Lcom/example/standing_order/standingorder/api/InstanceForm;" (.ref om)) (Fs0 : Fld Z h0 oe "com/example/standing_order/standingorder/api/InstanceForm" "engine" "Ljava/lang/String;" (.ref s0)) (hne : a ≠ s0) (Sc : Sta Z h0 "java/lang/String" "COMPACT_STRINGS" "Z" (.int zc)) (hzc : ¬ zc = 0) (Ea : Exa Z h0 a "java/lang/String") (Ca : Fld Z h0 a "java/lang/String" "coder" "B" (.int (0 : Int32))) (Va : Fld Z h0 a "java/lang/String" "value" "[B" (.ref b)) (Es0 : Exa Z h0 s0 "java/lang/String") (Fc0 : Fld Z h0 s0 "java/lang/String" "coder" "B" (.int (0 : Int32))) (Fv0 : Fld Z h0 s0 "java/lang/String" "value" "[B" (.ref v0)) (V1 : Arv Z h0 b k1 .byte (5 : Int32) [(.int x0), (.int x1), (.int x2), (.int x3), (.int x4)] (.int (0 : Int32))) (V0 : Arv Z h0 v0 kv0 .byte (5 : Int32) [(.int (82 : Int32)), (.int (101 : Int32)), (.int (100 : Int32)), (.int (105 : Int32)), (.int (115 : Int32))] (.int (0 : Int32)))  (y0 : ¬ x0 = (82 : Int32)) :
    MetFree l (⟨"com/example/standing_order/standingorder/api/InstanceForm", "ofEngine", "(Ljava/lang/String;)Lcom/example/standing_order/standingorder/api/InstanceForm;"⟩ : MethodName) (head1 (Jvm.Cond.code (⟨"com/example/standing_order/standingorder/api/InstanceForm", "ofEngine", "(Ljava/lang/String;)Lcom/example/standing_order/standingorder/api/InstanceForm;"⟩ : MethodName) prog_4_method_4_code 1 (some (.object "com/example/standing_order/standingorder/api/InstanceForm")) :: ws) ({ frames := 2, cells := 0, slots := 0, locals := 28 } : Room)) (fun ar_ U => ar_ = #[(.ref a)] ∧ Z.Warmed39 U.vm ∧ U.heap = h0) (fun _ _ _ _ _ => True) (fun _ U o U' => Phi U (Q_rmO0 Z a oe om s0 zc b v0 k1 kv0 x0 x1 x2 x3 x4 h0 n0) ({ frames := 2, cells := 0, slots := 0, locals := 28 } : Room).cells ({ frames := 2, cells := 0, slots := 0, locals := 28 } : Room).slots o U') := by
  refine MetFree.of_bodySF (plainFor_of_name pn_com_example_standing_order_standingorder_api_InstanceForm) hisR ?_
  intro p e s m args below meth c s₁ Bd hml0 hP hK
  obtain ⟨rfl, hZ, hh⟩ := hP
  have hx := Bd.exec
  have hby := Bd.bytes
  have hlk := Bd.notSynchronized
  have hml : c.maxLocals = 1 := hml0
  have hown : s.vm.findClass "com/example/standing_order/standingorder/api/InstanceForm" = some m.cls := findClass_of_methodNamed Bd.named
  have hown0 := hown
  have hnm := (name_of_methodNamed Bd.named Bd.method).1
  have hret := Bd.returns
  have X0 : Stand p l e ({ frames := 2, cells := 0, slots := 0, locals := 28 } : Room) s m #[(.ref a)] below meth c s₁ [] 0 0 := Stand.of_body Bd
  have e0 : s₁.heap = h0 := by rw [← hh, Bd.state]; rfl
  have N0 := Fr.nil n0
  have sz := Z0
  have K := Keep.refl h0 []
  show Runs p.tables e below (Phi s (Q_rmO0 Z a oe om s0 zc b v0 k1 kv0 x0 x1 x2 x3 x4 h0 n0) ({ frames := 2, cells := 0, slots := 0, locals := 28 } : Room).cells ({ frames := 2, cells := 0, slots := 0, locals := 28 } : Room).slots) _
  refine Runs.st (fun t' k' => castTop (ef_prog_4_method_4_R m a ) k') ?_
  show Runs p.tables e below _ (s₁.setTop (mkF m 0 #[.val (.ref a)] []))
  refine Runs.st (fun t' k' => XS.aloadN X0.here hx rfl (hb hby d_prog_4_method_4_0) rfl rfl k') ?_
  obtain ⟨T1_, X1_, e1_, st1_⟩ := getS2 X0 hx hZ hown (host := "") (Or.inl (hw _ (List.mem_of_getElem? (i := 69) rfl))) Via.refl e0 S0 (g := (mkF m 1 #[.val (.ref a)] [(.ref a)])) rfl (hb hby d_prog_4_method_4_1)
  refine Runs.st (st1_) ?_
  show Runs p.tables e below _ (T1_.setTop (mkF m 4 #[.val (.ref a)] [(.ref oe), (.ref a)]))
  obtain ⟨T2_, X2_, e2_, st2_⟩ := getF X1_ hx hZ hown (host := "") (Or.inl (hw _ (List.mem_of_getElem? (i := 70) rfl))) Via.refl e1_ Fs0 (g := (mkF m 4 #[.val (.ref a)] [(.ref oe), (.ref a)])) rfl rfl (hb hby d_prog_4_method_4_4)
  refine Runs.st (st2_) ?_
  show Runs p.tables e below _ (T2_.setTop (mkF m 7 #[.val (.ref a)] [(.ref s0), (.ref a)]))
  obtain ⟨cq3_, kq3_, q3_a, q3_b, q3_c⟩ := isOf hZ e2_ Ea
  obtain ⟨_, _, ⟨T3_, L3_, k3_, n3_⟩, -, X3_, ⟨Lc3_, hQ3_, l3_, y3_, z3_⟩, st3_⟩ := X2_.virtualBack hx (y := (⟨"java/lang/String", "equals", "(Ljava/lang/Object;)Z"⟩ : MethodName)) (z := (⟨"java/lang/String", "equals", "(Ljava/lang/Object;)Z"⟩ : MethodName)) hown (mvT hZ (hw _ (List.mem_of_getElem? (i := 72) rfl))) (mvT hZ (hw _ (List.mem_of_getElem? (i := 73) rfl))) (notFace_of_selects (args := #[]) (mvT hZ (hw _ (List.mem_of_getElem? (i := 75) rfl)))) (mvT hZ (hw _ (List.mem_of_getElem? (i := 75) rfl))) (mvT hZ (hw _ (List.mem_of_getElem? (i := 74) rfl))) (by decide) (backOf (W := 0) (rmS0 l Z a0 hw [] a s0 zc b v0 k1 kv0 x0 x1 x2 x3 x4 h0 n0 sz hne Sc hzc Ea Ca Va Es0 Fc0 Fv0 V1 V0 y0) hZ (hw _ (List.mem_of_getElem? (i := 76) rfl)) (hw _ (List.mem_of_getElem? (i := 4) rfl)) (by decide) (by decide)) q3_a q3_c (g := (mkF m 7 #[.val (.ref a)] [(.ref s0), (.ref a)])) rfl (by rw [hml]; rfl) (Steps.refl _) (argsL := [(.ref s0)]) (rest := []) (lenOf pd__28Ljava_2flang_2fObject_3b_29Z rfl) rfl (by show 2 * 0 + _ ≤ _; exact Nat.le_of_eq rfl) (hb hby d_prog_4_method_4_7) (fun _ _ => ⟨rfl, e2_, (by decide : 0 + 0 ≤ _), (by decide : 0 + 0 ≤ _)⟩)
  dsimp only [Pt.U, Pt.locs, Pt.cells, Pt.slots] at X3_ l3_ y3_ z3_ st3_ hQ3_
  subst l3_ y3_ z3_
  obtain ⟨rfl, N3_q, e3_⟩ := hQ3_
  have N3_ := Fr.app N0 N3_q
  refine Runs.tr st3_ ?_
  replace X3_ := wider X3_ (c' := 0) (s' := 0) (by decide) (by decide)
  show Runs p.tables e below _ (T3_.setTop (mkF m 10 #[.val (.ref a)] [(.int (0 : Int32))]))
  refine Runs.st (fun t' k' => XS.ifYes X3_.here hx rfl (pc0 := 10) (pc' := 19) rfl (hb hby d_prog_4_method_4_10) rfl ((if0 _ _).trans (teq rfl).1) (by decide) (by decide) k') ?_
  show Runs p.tables e below _ (T3_.setTop (mkF m 19 #[.val (.ref a)] []))
  obtain ⟨T4_, X4_, e4_, st4_⟩ := getS2 X3_ hx hZ hown (host := "") (Or.inl (hw _ (List.mem_of_getElem? (i := 88) rfl))) Via.refl e3_ S1 (g := (mkF m 19 #[.val (.ref a)] [])) rfl (hb hby d_prog_4_method_4_19)
  refine Runs.st (st4_) ?_
  show Runs p.tables e below _ (T4_.setTop (mkF m 22 #[.val (.ref a)] [(.ref om)]))
  refine Runs.ret X4_ hlk (v := (some (.ref om))) (fun h => by rw [hret] at h; cases h) (by decide) (by decide) ?_ (fun fs hr => retOut X4_ hx hret rfl (Or.inr (Or.inr (Or.inr (Or.inr ⟨rfl, rfl, rfl⟩)))) (hb hby d_prog_4_method_4_22) hr)
  try rw [e4_]
  exact ⟨rfl, N3_, rfl⟩
def Q_rmO1 (Z : State) (a : Addr) (oe om s0 : Addr) (zc : Int32) (b v0 : Addr) (k1 kv0 : ClassId) (x0 x1 x2 x3 x4 : Int32) (h0 : Heap) (n0 : Nat) : Option Value → Heap → List Loc → Prop := (fun v h L => v = some (.ref om) ∧ Fr n0 L ∧ h = h0)
set_option maxRecDepth 65536 in
set_option maxHeartbeats 40000000 in
theorem rmO1 (l : Launch) (Z : State) (a0 : Array Value) (hw : ∀ d ∈ tables_1, d.before a0 Z = true) (ws : List Jvm.Cond) (a : Addr) (oe om s0 : Addr) (zc : Int32) (b v0 : Addr) (k1 kv0 : ClassId) (x0 x1 x2 x3 x4 : Int32) (h0 : Heap) (n0 : Nat) (Z0 : n0 ≤ h0.size) (S0 : Sta Z h0 "com/example/standing_order/standingorder/api/InstanceForm" "REDIS" "Lcom/example/standing_order/standingorder/api/InstanceForm;" (.ref oe)) (S1 : Sta Z h0 "com/example/standing_order/standingorder/api/InstanceForm" "MONGODB" "Lcom/example/standing_order/standingorder/api/InstanceForm;" (.ref om)) (Fs0 : Fld Z h0 oe "com/example/standing_order/standingorder/api/InstanceForm" "engine" "Ljava/lang/String;" (.ref s0)) (hne : a ≠ s0) (Sc : Sta Z h0 "java/lang/String" "COMPACT_STRINGS" "Z" (.int zc)) (hzc : ¬ zc = 0) (Ea : Exa Z h0 a "java/lang/String") (Ca : Fld Z h0 a "java/lang/String" "coder" "B" (.int (0 : Int32))) (Va : Fld Z h0 a "java/lang/String" "value" "[B" (.ref b)) (Es0 : Exa Z h0 s0 "java/lang/String") (Fc0 : Fld Z h0 s0 "java/lang/String" "coder" "B" (.int (0 : Int32))) (Fv0 : Fld Z h0 s0 "java/lang/String" "value" "[B" (.ref v0)) (V1 : Arv Z h0 b k1 .byte (5 : Int32) [(.int x0), (.int x1), (.int x2), (.int x3), (.int x4)] (.int (0 : Int32))) (V0 : Arv Z h0 v0 kv0 .byte (5 : Int32) [(.int (82 : Int32)), (.int (101 : Int32)), (.int (100 : Int32)), (.int (105 : Int32)), (.int (115 : Int32))] (.int (0 : Int32))) (y0 : x0 = (82 : Int32)) (y1 : ¬ x1 = (101 : Int32)) :
    MetFree l (⟨"com/example/standing_order/standingorder/api/InstanceForm", "ofEngine", "(Ljava/lang/String;)Lcom/example/standing_order/standingorder/api/InstanceForm;"⟩ : MethodName) (head1 (Jvm.Cond.code (⟨"com/example/standing_order/standingorder/api/InstanceForm", "ofEngine", "(Ljava/lang/String;)Lcom/example/standing_order/standingorder/api/InstanceForm;"⟩ : MethodName) prog_4_method_4_code 1 (some (.object "com/example/standing_order/standingorder/api/InstanceForm")) :: ws) ({ frames := 2, cells := 0, slots := 0, locals := 28 } : Room)) (fun ar_ U => ar_ = #[(.ref a)] ∧ Z.Warmed39 U.vm ∧ U.heap = h0) (fun _ _ _ _ _ => True) (fun _ U o U' => Phi U (Q_rmO1 Z a oe om s0 zc b v0 k1 kv0 x0 x1 x2 x3 x4 h0 n0) ({ frames := 2, cells := 0, slots := 0, locals := 28 } : Room).cells ({ frames := 2, cells := 0, slots := 0, locals := 28 } : Room).slots o U') := by
  refine MetFree.of_bodySF (plainFor_of_name pn_com_example_standing_order_standingorder_api_InstanceForm) hisR ?_
  intro p e s m args below meth c s₁ Bd hml0 hP hK
  obtain ⟨rfl, hZ, hh⟩ := hP
  have hx := Bd.exec
  have hby := Bd.bytes
  have hlk := Bd.notSynchronized
  have hml : c.maxLocals = 1 := hml0
  have hown : s.vm.findClass "com/example/standing_order/standingorder/api/InstanceForm" = some m.cls := findClass_of_methodNamed Bd.named
  have hown0 := hown
  have hnm := (name_of_methodNamed Bd.named Bd.method).1
  have hret := Bd.returns
  have X0 : Stand p l e ({ frames := 2, cells := 0, slots := 0, locals := 28 } : Room) s m #[(.ref a)] below meth c s₁ [] 0 0 := Stand.of_body Bd
  have e0 : s₁.heap = h0 := by rw [← hh, Bd.state]; rfl
  have N0 := Fr.nil n0
  have sz := Z0
  have K := Keep.refl h0 []
  show Runs p.tables e below (Phi s (Q_rmO1 Z a oe om s0 zc b v0 k1 kv0 x0 x1 x2 x3 x4 h0 n0) ({ frames := 2, cells := 0, slots := 0, locals := 28 } : Room).cells ({ frames := 2, cells := 0, slots := 0, locals := 28 } : Room).slots) _
  refine Runs.st (fun t' k' => castTop (ef_prog_4_method_4_R m a ) k') ?_
  show Runs p.tables e below _ (s₁.setTop (mkF m 0 #[.val (.ref a)] []))
  refine Runs.st (fun t' k' => XS.aloadN X0.here hx rfl (hb hby d_prog_4_method_4_0) rfl rfl k') ?_
  obtain ⟨T1_, X1_, e1_, st1_⟩ := getS2 X0 hx hZ hown (host := "") (Or.inl (hw _ (List.mem_of_getElem? (i := 69) rfl))) Via.refl e0 S0 (g := (mkF m 1 #[.val (.ref a)] [(.ref a)])) rfl (hb hby d_prog_4_method_4_1)
  refine Runs.st (st1_) ?_
  show Runs p.tables e below _ (T1_.setTop (mkF m 4 #[.val (.ref a)] [(.ref oe), (.ref a)]))
  obtain ⟨T2_, X2_, e2_, st2_⟩ := getF X1_ hx hZ hown (host := "") (Or.inl (hw _ (List.mem_of_getElem? (i := 70) rfl))) Via.refl e1_ Fs0 (g := (mkF m 4 #[.val (.ref a)] [(.ref oe), (.ref a)])) rfl rfl (hb hby d_prog_4_method_4_4)
  refine Runs.st (st2_) ?_
  show Runs p.tables e below _ (T2_.setTop (mkF m 7 #[.val (.ref a)] [(.ref s0), (.ref a)]))
  obtain ⟨cq3_, kq3_, q3_a, q3_b, q3_c⟩ := isOf hZ e2_ Ea
  obtain ⟨_, _, ⟨T3_, L3_, k3_, n3_⟩, -, X3_, ⟨Lc3_, hQ3_, l3_, y3_, z3_⟩, st3_⟩ := X2_.virtualBack hx (y := (⟨"java/lang/String", "equals", "(Ljava/lang/Object;)Z"⟩ : MethodName)) (z := (⟨"java/lang/String", "equals", "(Ljava/lang/Object;)Z"⟩ : MethodName)) hown (mvT hZ (hw _ (List.mem_of_getElem? (i := 72) rfl))) (mvT hZ (hw _ (List.mem_of_getElem? (i := 73) rfl))) (notFace_of_selects (args := #[]) (mvT hZ (hw _ (List.mem_of_getElem? (i := 75) rfl)))) (mvT hZ (hw _ (List.mem_of_getElem? (i := 75) rfl))) (mvT hZ (hw _ (List.mem_of_getElem? (i := 74) rfl))) (by decide) (backOf (W := 0) (rmS1 l Z a0 hw [] a s0 zc b v0 k1 kv0 x0 x1 x2 x3 x4 h0 n0 sz hne Sc hzc Ea Ca Va Es0 Fc0 Fv0 V1 V0 y0 y1) hZ (hw _ (List.mem_of_getElem? (i := 76) rfl)) (hw _ (List.mem_of_getElem? (i := 4) rfl)) (by decide) (by decide)) q3_a q3_c (g := (mkF m 7 #[.val (.ref a)] [(.ref s0), (.ref a)])) rfl (by rw [hml]; rfl) (Steps.refl _) (argsL := [(.ref s0)]) (rest := []) (lenOf pd__28Ljava_2flang_2fObject_3b_29Z rfl) rfl (by show 2 * 0 + _ ≤ _; exact Nat.le_of_eq rfl) (hb hby d_prog_4_method_4_7) (fun _ _ => ⟨rfl, e2_, (by decide : 0 + 0 ≤ _), (by decide : 0 + 0 ≤ _)⟩)
  dsimp only [Pt.U, Pt.locs, Pt.cells, Pt.slots] at X3_ l3_ y3_ z3_ st3_ hQ3_
  subst l3_ y3_ z3_
  obtain ⟨rfl, N3_q, e3_⟩ := hQ3_
  have N3_ := Fr.app N0 N3_q
  refine Runs.tr st3_ ?_
  replace X3_ := wider X3_ (c' := 0) (s' := 0) (by decide) (by decide)
  show Runs p.tables e below _ (T3_.setTop (mkF m 10 #[.val (.ref a)] [(.int (0 : Int32))]))
  refine Runs.st (fun t' k' => XS.ifYes X3_.here hx rfl (pc0 := 10) (pc' := 19) rfl (hb hby d_prog_4_method_4_10) rfl ((if0 _ _).trans (teq rfl).1) (by decide) (by decide) k') ?_
  show Runs p.tables e below _ (T3_.setTop (mkF m 19 #[.val (.ref a)] []))
  obtain ⟨T4_, X4_, e4_, st4_⟩ := getS2 X3_ hx hZ hown (host := "") (Or.inl (hw _ (List.mem_of_getElem? (i := 88) rfl))) Via.refl e3_ S1 (g := (mkF m 19 #[.val (.ref a)] [])) rfl (hb hby d_prog_4_method_4_19)
  refine Runs.st (st4_) ?_
  show Runs p.tables e below _ (T4_.setTop (mkF m 22 #[.val (.ref a)] [(.ref om)]))
  refine Runs.ret X4_ hlk (v := (some (.ref om))) (fun h => by rw [hret] at h; cases h) (by decide) (by decide) ?_ (fun fs hr => retOut X4_ hx hret rfl (Or.inr (Or.inr (Or.inr (Or.inr ⟨rfl, rfl, rfl⟩)))) (hb hby d_prog_4_method_4_22) hr)
  try rw [e4_]
  exact ⟨rfl, N3_, rfl⟩
def Q_rmO2 (Z : State) (a : Addr) (oe om s0 : Addr) (zc : Int32) (b v0 : Addr) (k1 kv0 : ClassId) (x0 x1 x2 x3 x4 : Int32) (h0 : Heap) (n0 : Nat) : Option Value → Heap → List Loc → Prop := (fun v h L => v = some (.ref om) ∧ Fr n0 L ∧ h = h0)
set_option maxRecDepth 65536 in
set_option maxHeartbeats 40000000 in
theorem rmO2 (l : Launch) (Z : State) (a0 : Array Value) (hw : ∀ d ∈ tables_1, d.before a0 Z = true) (ws : List Jvm.Cond) (a : Addr) (oe om s0 : Addr) (zc : Int32) (b v0 : Addr) (k1 kv0 : ClassId) (x0 x1 x2 x3 x4 : Int32) (h0 : Heap) (n0 : Nat) (Z0 : n0 ≤ h0.size) (S0 : Sta Z h0 "com/example/standing_order/standingorder/api/InstanceForm" "REDIS" "Lcom/example/standing_order/standingorder/api/InstanceForm;" (.ref oe)) (S1 : Sta Z h0 "com/example/standing_order/standingorder/api/InstanceForm" "MONGODB" "Lcom/example/standing_order/standingorder/api/InstanceForm;" (.ref om)) (Fs0 : Fld Z h0 oe "com/example/standing_order/standingorder/api/InstanceForm" "engine" "Ljava/lang/String;" (.ref s0)) (hne : a ≠ s0) (Sc : Sta Z h0 "java/lang/String" "COMPACT_STRINGS" "Z" (.int zc)) (hzc : ¬ zc = 0) (Ea : Exa Z h0 a "java/lang/String") (Ca : Fld Z h0 a "java/lang/String" "coder" "B" (.int (0 : Int32))) (Va : Fld Z h0 a "java/lang/String" "value" "[B" (.ref b)) (Es0 : Exa Z h0 s0 "java/lang/String") (Fc0 : Fld Z h0 s0 "java/lang/String" "coder" "B" (.int (0 : Int32))) (Fv0 : Fld Z h0 s0 "java/lang/String" "value" "[B" (.ref v0)) (V1 : Arv Z h0 b k1 .byte (5 : Int32) [(.int x0), (.int x1), (.int x2), (.int x3), (.int x4)] (.int (0 : Int32))) (V0 : Arv Z h0 v0 kv0 .byte (5 : Int32) [(.int (82 : Int32)), (.int (101 : Int32)), (.int (100 : Int32)), (.int (105 : Int32)), (.int (115 : Int32))] (.int (0 : Int32))) (y0 : x0 = (82 : Int32)) (y1 : x1 = (101 : Int32)) (y2 : ¬ x2 = (100 : Int32)) :
    MetFree l (⟨"com/example/standing_order/standingorder/api/InstanceForm", "ofEngine", "(Ljava/lang/String;)Lcom/example/standing_order/standingorder/api/InstanceForm;"⟩ : MethodName) (head1 (Jvm.Cond.code (⟨"com/example/standing_order/standingorder/api/InstanceForm", "ofEngine", "(Ljava/lang/String;)Lcom/example/standing_order/standingorder/api/InstanceForm;"⟩ : MethodName) prog_4_method_4_code 1 (some (.object "com/example/standing_order/standingorder/api/InstanceForm")) :: ws) ({ frames := 2, cells := 0, slots := 0, locals := 28 } : Room)) (fun ar_ U => ar_ = #[(.ref a)] ∧ Z.Warmed39 U.vm ∧ U.heap = h0) (fun _ _ _ _ _ => True) (fun _ U o U' => Phi U (Q_rmO2 Z a oe om s0 zc b v0 k1 kv0 x0 x1 x2 x3 x4 h0 n0) ({ frames := 2, cells := 0, slots := 0, locals := 28 } : Room).cells ({ frames := 2, cells := 0, slots := 0, locals := 28 } : Room).slots o U') := by
  refine MetFree.of_bodySF (plainFor_of_name pn_com_example_standing_order_standingorder_api_InstanceForm) hisR ?_
  intro p e s m args below meth c s₁ Bd hml0 hP hK
  obtain ⟨rfl, hZ, hh⟩ := hP
  have hx := Bd.exec
  have hby := Bd.bytes
  have hlk := Bd.notSynchronized
  have hml : c.maxLocals = 1 := hml0
  have hown : s.vm.findClass "com/example/standing_order/standingorder/api/InstanceForm" = some m.cls := findClass_of_methodNamed Bd.named
  have hown0 := hown
  have hnm := (name_of_methodNamed Bd.named Bd.method).1
  have hret := Bd.returns
  have X0 : Stand p l e ({ frames := 2, cells := 0, slots := 0, locals := 28 } : Room) s m #[(.ref a)] below meth c s₁ [] 0 0 := Stand.of_body Bd
  have e0 : s₁.heap = h0 := by rw [← hh, Bd.state]; rfl
  have N0 := Fr.nil n0
  have sz := Z0
  have K := Keep.refl h0 []
  show Runs p.tables e below (Phi s (Q_rmO2 Z a oe om s0 zc b v0 k1 kv0 x0 x1 x2 x3 x4 h0 n0) ({ frames := 2, cells := 0, slots := 0, locals := 28 } : Room).cells ({ frames := 2, cells := 0, slots := 0, locals := 28 } : Room).slots) _
  refine Runs.st (fun t' k' => castTop (ef_prog_4_method_4_R m a ) k') ?_
  show Runs p.tables e below _ (s₁.setTop (mkF m 0 #[.val (.ref a)] []))
  refine Runs.st (fun t' k' => XS.aloadN X0.here hx rfl (hb hby d_prog_4_method_4_0) rfl rfl k') ?_
  obtain ⟨T1_, X1_, e1_, st1_⟩ := getS2 X0 hx hZ hown (host := "") (Or.inl (hw _ (List.mem_of_getElem? (i := 69) rfl))) Via.refl e0 S0 (g := (mkF m 1 #[.val (.ref a)] [(.ref a)])) rfl (hb hby d_prog_4_method_4_1)
  refine Runs.st (st1_) ?_
  show Runs p.tables e below _ (T1_.setTop (mkF m 4 #[.val (.ref a)] [(.ref oe), (.ref a)]))
  obtain ⟨T2_, X2_, e2_, st2_⟩ := getF X1_ hx hZ hown (host := "") (Or.inl (hw _ (List.mem_of_getElem? (i := 70) rfl))) Via.refl e1_ Fs0 (g := (mkF m 4 #[.val (.ref a)] [(.ref oe), (.ref a)])) rfl rfl (hb hby d_prog_4_method_4_4)
  refine Runs.st (st2_) ?_
  show Runs p.tables e below _ (T2_.setTop (mkF m 7 #[.val (.ref a)] [(.ref s0), (.ref a)]))
  obtain ⟨cq3_, kq3_, q3_a, q3_b, q3_c⟩ := isOf hZ e2_ Ea
  obtain ⟨_, _, ⟨T3_, L3_, k3_, n3_⟩, -, X3_, ⟨Lc3_, hQ3_, l3_, y3_, z3_⟩, st3_⟩ := X2_.virtualBack hx (y := (⟨"java/lang/String", "equals", "(Ljava/lang/Object;)Z"⟩ : MethodName)) (z := (⟨"java/lang/String", "equals", "(Ljava/lang/Object;)Z"⟩ : MethodName)) hown (mvT hZ (hw _ (List.mem_of_getElem? (i := 72) rfl))) (mvT hZ (hw _ (List.mem_of_getElem? (i := 73) rfl))) (notFace_of_selects (args := #[]) (mvT hZ (hw _ (List.mem_of_getElem? (i := 75) rfl)))) (mvT hZ (hw _ (List.mem_of_getElem? (i := 75) rfl))) (mvT hZ (hw _ (List.mem_of_getElem? (i := 74) rfl))) (by decide) (backOf (W := 0) (rmS2 l Z a0 hw [] a s0 zc b v0 k1 kv0 x0 x1 x2 x3 x4 h0 n0 sz hne Sc hzc Ea Ca Va Es0 Fc0 Fv0 V1 V0 y0 y1 y2) hZ (hw _ (List.mem_of_getElem? (i := 76) rfl)) (hw _ (List.mem_of_getElem? (i := 4) rfl)) (by decide) (by decide)) q3_a q3_c (g := (mkF m 7 #[.val (.ref a)] [(.ref s0), (.ref a)])) rfl (by rw [hml]; rfl) (Steps.refl _) (argsL := [(.ref s0)]) (rest := []) (lenOf pd__28Ljava_2flang_2fObject_3b_29Z rfl) rfl (by show 2 * 0 + _ ≤ _; exact Nat.le_of_eq rfl) (hb hby d_prog_4_method_4_7) (fun _ _ => ⟨rfl, e2_, (by decide : 0 + 0 ≤ _), (by decide : 0 + 0 ≤ _)⟩)
  dsimp only [Pt.U, Pt.locs, Pt.cells, Pt.slots] at X3_ l3_ y3_ z3_ st3_ hQ3_
  subst l3_ y3_ z3_
  obtain ⟨rfl, N3_q, e3_⟩ := hQ3_
  have N3_ := Fr.app N0 N3_q
  refine Runs.tr st3_ ?_
  replace X3_ := wider X3_ (c' := 0) (s' := 0) (by decide) (by decide)
  show Runs p.tables e below _ (T3_.setTop (mkF m 10 #[.val (.ref a)] [(.int (0 : Int32))]))
  refine Runs.st (fun t' k' => XS.ifYes X3_.here hx rfl (pc0 := 10) (pc' := 19) rfl (hb hby d_prog_4_method_4_10) rfl ((if0 _ _).trans (teq rfl).1) (by decide) (by decide) k') ?_
  show Runs p.tables e below _ (T3_.setTop (mkF m 19 #[.val (.ref a)] []))
  obtain ⟨T4_, X4_, e4_, st4_⟩ := getS2 X3_ hx hZ hown (host := "") (Or.inl (hw _ (List.mem_of_getElem? (i := 88) rfl))) Via.refl e3_ S1 (g := (mkF m 19 #[.val (.ref a)] [])) rfl (hb hby d_prog_4_method_4_19)
  refine Runs.st (st4_) ?_
  show Runs p.tables e below _ (T4_.setTop (mkF m 22 #[.val (.ref a)] [(.ref om)]))
  refine Runs.ret X4_ hlk (v := (some (.ref om))) (fun h => by rw [hret] at h; cases h) (by decide) (by decide) ?_ (fun fs hr => retOut X4_ hx hret rfl (Or.inr (Or.inr (Or.inr (Or.inr ⟨rfl, rfl, rfl⟩)))) (hb hby d_prog_4_method_4_22) hr)
  try rw [e4_]
  exact ⟨rfl, N3_, rfl⟩
def Q_rmO3 (Z : State) (a : Addr) (oe om s0 : Addr) (zc : Int32) (b v0 : Addr) (k1 kv0 : ClassId) (x0 x1 x2 x3 x4 : Int32) (h0 : Heap) (n0 : Nat) : Option Value → Heap → List Loc → Prop := (fun v h L => v = some (.ref om) ∧ Fr n0 L ∧ h = h0)
set_option maxRecDepth 65536 in
set_option maxHeartbeats 40000000 in
theorem rmO3 (l : Launch) (Z : State) (a0 : Array Value) (hw : ∀ d ∈ tables_1, d.before a0 Z = true) (ws : List Jvm.Cond) (a : Addr) (oe om s0 : Addr) (zc : Int32) (b v0 : Addr) (k1 kv0 : ClassId) (x0 x1 x2 x3 x4 : Int32) (h0 : Heap) (n0 : Nat) (Z0 : n0 ≤ h0.size) (S0 : Sta Z h0 "com/example/standing_order/standingorder/api/InstanceForm" "REDIS" "Lcom/example/standing_order/standingorder/api/InstanceForm;" (.ref oe)) (S1 : Sta Z h0 "com/example/standing_order/standingorder/api/InstanceForm" "MONGODB" "Lcom/example/standing_order/standingorder/api/InstanceForm;" (.ref om)) (Fs0 : Fld Z h0 oe "com/example/standing_order/standingorder/api/InstanceForm" "engine" "Ljava/lang/String;" (.ref s0)) (hne : a ≠ s0) (Sc : Sta Z h0 "java/lang/String" "COMPACT_STRINGS" "Z" (.int zc)) (hzc : ¬ zc = 0) (Ea : Exa Z h0 a "java/lang/String") (Ca : Fld Z h0 a "java/lang/String" "coder" "B" (.int (0 : Int32))) (Va : Fld Z h0 a "java/lang/String" "value" "[B" (.ref b)) (Es0 : Exa Z h0 s0 "java/lang/String") (Fc0 : Fld Z h0 s0 "java/lang/String" "coder" "B" (.int (0 : Int32))) (Fv0 : Fld Z h0 s0 "java/lang/String" "value" "[B" (.ref v0)) (V1 : Arv Z h0 b k1 .byte (5 : Int32) [(.int x0), (.int x1), (.int x2), (.int x3), (.int x4)] (.int (0 : Int32))) (V0 : Arv Z h0 v0 kv0 .byte (5 : Int32) [(.int (82 : Int32)), (.int (101 : Int32)), (.int (100 : Int32)), (.int (105 : Int32)), (.int (115 : Int32))] (.int (0 : Int32))) (y0 : x0 = (82 : Int32)) (y1 : x1 = (101 : Int32)) (y2 : x2 = (100 : Int32)) (y3 : ¬ x3 = (105 : Int32)) :
    MetFree l (⟨"com/example/standing_order/standingorder/api/InstanceForm", "ofEngine", "(Ljava/lang/String;)Lcom/example/standing_order/standingorder/api/InstanceForm;"⟩ : MethodName) (head1 (Jvm.Cond.code (⟨"com/example/standing_order/standingorder/api/InstanceForm", "ofEngine", "(Ljava/lang/String;)Lcom/example/standing_order/standingorder/api/InstanceForm;"⟩ : MethodName) prog_4_method_4_code 1 (some (.object "com/example/standing_order/standingorder/api/InstanceForm")) :: ws) ({ frames := 2, cells := 0, slots := 0, locals := 28 } : Room)) (fun ar_ U => ar_ = #[(.ref a)] ∧ Z.Warmed39 U.vm ∧ U.heap = h0) (fun _ _ _ _ _ => True) (fun _ U o U' => Phi U (Q_rmO3 Z a oe om s0 zc b v0 k1 kv0 x0 x1 x2 x3 x4 h0 n0) ({ frames := 2, cells := 0, slots := 0, locals := 28 } : Room).cells ({ frames := 2, cells := 0, slots := 0, locals := 28 } : Room).slots o U') := by
  refine MetFree.of_bodySF (plainFor_of_name pn_com_example_standing_order_standingorder_api_InstanceForm) hisR ?_
  intro p e s m args below meth c s₁ Bd hml0 hP hK
  obtain ⟨rfl, hZ, hh⟩ := hP
  have hx := Bd.exec
  have hby := Bd.bytes
  have hlk := Bd.notSynchronized
  have hml : c.maxLocals = 1 := hml0
  have hown : s.vm.findClass "com/example/standing_order/standingorder/api/InstanceForm" = some m.cls := findClass_of_methodNamed Bd.named
  have hown0 := hown
  have hnm := (name_of_methodNamed Bd.named Bd.method).1
  have hret := Bd.returns
  have X0 : Stand p l e ({ frames := 2, cells := 0, slots := 0, locals := 28 } : Room) s m #[(.ref a)] below meth c s₁ [] 0 0 := Stand.of_body Bd
  have e0 : s₁.heap = h0 := by rw [← hh, Bd.state]; rfl
  have N0 := Fr.nil n0
  have sz := Z0
  have K := Keep.refl h0 []
  show Runs p.tables e below (Phi s (Q_rmO3 Z a oe om s0 zc b v0 k1 kv0 x0 x1 x2 x3 x4 h0 n0) ({ frames := 2, cells := 0, slots := 0, locals := 28 } : Room).cells ({ frames := 2, cells := 0, slots := 0, locals := 28 } : Room).slots) _
  refine Runs.st (fun t' k' => castTop (ef_prog_4_method_4_R m a ) k') ?_
  show Runs p.tables e below _ (s₁.setTop (mkF m 0 #[.val (.ref a)] []))
  refine Runs.st (fun t' k' => XS.aloadN X0.here hx rfl (hb hby d_prog_4_method_4_0) rfl rfl k') ?_
  obtain ⟨T1_, X1_, e1_, st1_⟩ := getS2 X0 hx hZ hown (host := "") (Or.inl (hw _ (List.mem_of_getElem? (i := 69) rfl))) Via.refl e0 S0 (g := (mkF m 1 #[.val (.ref a)] [(.ref a)])) rfl (hb hby d_prog_4_method_4_1)
  refine Runs.st (st1_) ?_
  show Runs p.tables e below _ (T1_.setTop (mkF m 4 #[.val (.ref a)] [(.ref oe), (.ref a)]))
  obtain ⟨T2_, X2_, e2_, st2_⟩ := getF X1_ hx hZ hown (host := "") (Or.inl (hw _ (List.mem_of_getElem? (i := 70) rfl))) Via.refl e1_ Fs0 (g := (mkF m 4 #[.val (.ref a)] [(.ref oe), (.ref a)])) rfl rfl (hb hby d_prog_4_method_4_4)
  refine Runs.st (st2_) ?_
  show Runs p.tables e below _ (T2_.setTop (mkF m 7 #[.val (.ref a)] [(.ref s0), (.ref a)]))
  obtain ⟨cq3_, kq3_, q3_a, q3_b, q3_c⟩ := isOf hZ e2_ Ea
  obtain ⟨_, _, ⟨T3_, L3_, k3_, n3_⟩, -, X3_, ⟨Lc3_, hQ3_, l3_, y3_, z3_⟩, st3_⟩ := X2_.virtualBack hx (y := (⟨"java/lang/String", "equals", "(Ljava/lang/Object;)Z"⟩ : MethodName)) (z := (⟨"java/lang/String", "equals", "(Ljava/lang/Object;)Z"⟩ : MethodName)) hown (mvT hZ (hw _ (List.mem_of_getElem? (i := 72) rfl))) (mvT hZ (hw _ (List.mem_of_getElem? (i := 73) rfl))) (notFace_of_selects (args := #[]) (mvT hZ (hw _ (List.mem_of_getElem? (i := 75) rfl)))) (mvT hZ (hw _ (List.mem_of_getElem? (i := 75) rfl))) (mvT hZ (hw _ (List.mem_of_getElem? (i := 74) rfl))) (by decide) (backOf (W := 0) (rmS3 l Z a0 hw [] a s0 zc b v0 k1 kv0 x0 x1 x2 x3 x4 h0 n0 sz hne Sc hzc Ea Ca Va Es0 Fc0 Fv0 V1 V0 y0 y1 y2 y3) hZ (hw _ (List.mem_of_getElem? (i := 76) rfl)) (hw _ (List.mem_of_getElem? (i := 4) rfl)) (by decide) (by decide)) q3_a q3_c (g := (mkF m 7 #[.val (.ref a)] [(.ref s0), (.ref a)])) rfl (by rw [hml]; rfl) (Steps.refl _) (argsL := [(.ref s0)]) (rest := []) (lenOf pd__28Ljava_2flang_2fObject_3b_29Z rfl) rfl (by show 2 * 0 + _ ≤ _; exact Nat.le_of_eq rfl) (hb hby d_prog_4_method_4_7) (fun _ _ => ⟨rfl, e2_, (by decide : 0 + 0 ≤ _), (by decide : 0 + 0 ≤ _)⟩)
  dsimp only [Pt.U, Pt.locs, Pt.cells, Pt.slots] at X3_ l3_ y3_ z3_ st3_ hQ3_
  subst l3_ y3_ z3_
  obtain ⟨rfl, N3_q, e3_⟩ := hQ3_
  have N3_ := Fr.app N0 N3_q
  refine Runs.tr st3_ ?_
  replace X3_ := wider X3_ (c' := 0) (s' := 0) (by decide) (by decide)
  show Runs p.tables e below _ (T3_.setTop (mkF m 10 #[.val (.ref a)] [(.int (0 : Int32))]))
  refine Runs.st (fun t' k' => XS.ifYes X3_.here hx rfl (pc0 := 10) (pc' := 19) rfl (hb hby d_prog_4_method_4_10) rfl ((if0 _ _).trans (teq rfl).1) (by decide) (by decide) k') ?_
  show Runs p.tables e below _ (T3_.setTop (mkF m 19 #[.val (.ref a)] []))
  obtain ⟨T4_, X4_, e4_, st4_⟩ := getS2 X3_ hx hZ hown (host := "") (Or.inl (hw _ (List.mem_of_getElem? (i := 88) rfl))) Via.refl e3_ S1 (g := (mkF m 19 #[.val (.ref a)] [])) rfl (hb hby d_prog_4_method_4_19)
  refine Runs.st (st4_) ?_
  show Runs p.tables e below _ (T4_.setTop (mkF m 22 #[.val (.ref a)] [(.ref om)]))
  refine Runs.ret X4_ hlk (v := (some (.ref om))) (fun h => by rw [hret] at h; cases h) (by decide) (by decide) ?_ (fun fs hr => retOut X4_ hx hret rfl (Or.inr (Or.inr (Or.inr (Or.inr ⟨rfl, rfl, rfl⟩)))) (hb hby d_prog_4_method_4_22) hr)
  try rw [e4_]
  exact ⟨rfl, N3_, rfl⟩
def Q_rmO4 (Z : State) (a : Addr) (oe om s0 : Addr) (zc : Int32) (b v0 : Addr) (k1 kv0 : ClassId) (x0 x1 x2 x3 x4 : Int32) (h0 : Heap) (n0 : Nat) : Option Value → Heap → List Loc → Prop := (fun v h L => v = some (.ref om) ∧ Fr n0 L ∧ h = h0)
set_option maxRecDepth 65536 in
set_option maxHeartbeats 40000000 in
theorem rmO4 (l : Launch) (Z : State) (a0 : Array Value) (hw : ∀ d ∈ tables_1, d.before a0 Z = true) (ws : List Jvm.Cond) (a : Addr) (oe om s0 : Addr) (zc : Int32) (b v0 : Addr) (k1 kv0 : ClassId) (x0 x1 x2 x3 x4 : Int32) (h0 : Heap) (n0 : Nat) (Z0 : n0 ≤ h0.size) (S0 : Sta Z h0 "com/example/standing_order/standingorder/api/InstanceForm" "REDIS" "Lcom/example/standing_order/standingorder/api/InstanceForm;" (.ref oe)) (S1 : Sta Z h0 "com/example/standing_order/standingorder/api/InstanceForm" "MONGODB" "Lcom/example/standing_order/standingorder/api/InstanceForm;" (.ref om)) (Fs0 : Fld Z h0 oe "com/example/standing_order/standingorder/api/InstanceForm" "engine" "Ljava/lang/String;" (.ref s0)) (hne : a ≠ s0) (Sc : Sta Z h0 "java/lang/String" "COMPACT_STRINGS" "Z" (.int zc)) (hzc : ¬ zc = 0) (Ea : Exa Z h0 a "java/lang/String") (Ca : Fld Z h0 a "java/lang/String" "coder" "B" (.int (0 : Int32))) (Va : Fld Z h0 a "java/lang/String" "value" "[B" (.ref b)) (Es0 : Exa Z h0 s0 "java/lang/String") (Fc0 : Fld Z h0 s0 "java/lang/String" "coder" "B" (.int (0 : Int32))) (Fv0 : Fld Z h0 s0 "java/lang/String" "value" "[B" (.ref v0)) (V1 : Arv Z h0 b k1 .byte (5 : Int32) [(.int x0), (.int x1), (.int x2), (.int x3), (.int x4)] (.int (0 : Int32))) (V0 : Arv Z h0 v0 kv0 .byte (5 : Int32) [(.int (82 : Int32)), (.int (101 : Int32)), (.int (100 : Int32)), (.int (105 : Int32)), (.int (115 : Int32))] (.int (0 : Int32))) (y0 : x0 = (82 : Int32)) (y1 : x1 = (101 : Int32)) (y2 : x2 = (100 : Int32)) (y3 : x3 = (105 : Int32)) (y4 : ¬ x4 = (115 : Int32)) :
    MetFree l (⟨"com/example/standing_order/standingorder/api/InstanceForm", "ofEngine", "(Ljava/lang/String;)Lcom/example/standing_order/standingorder/api/InstanceForm;"⟩ : MethodName) (head1 (Jvm.Cond.code (⟨"com/example/standing_order/standingorder/api/InstanceForm", "ofEngine", "(Ljava/lang/String;)Lcom/example/standing_order/standingorder/api/InstanceForm;"⟩ : MethodName) prog_4_method_4_code 1 (some (.object "com/example/standing_order/standingorder/api/InstanceForm")) :: ws) ({ frames := 2, cells := 0, slots := 0, locals := 28 } : Room)) (fun ar_ U => ar_ = #[(.ref a)] ∧ Z.Warmed39 U.vm ∧ U.heap = h0) (fun _ _ _ _ _ => True) (fun _ U o U' => Phi U (Q_rmO4 Z a oe om s0 zc b v0 k1 kv0 x0 x1 x2 x3 x4 h0 n0) ({ frames := 2, cells := 0, slots := 0, locals := 28 } : Room).cells ({ frames := 2, cells := 0, slots := 0, locals := 28 } : Room).slots o U') := by
  refine MetFree.of_bodySF (plainFor_of_name pn_com_example_standing_order_standingorder_api_InstanceForm) hisR ?_
  intro p e s m args below meth c s₁ Bd hml0 hP hK
  obtain ⟨rfl, hZ, hh⟩ := hP
  have hx := Bd.exec
  have hby := Bd.bytes
  have hlk := Bd.notSynchronized
  have hml : c.maxLocals = 1 := hml0
  have hown : s.vm.findClass "com/example/standing_order/standingorder/api/InstanceForm" = some m.cls := findClass_of_methodNamed Bd.named
  have hown0 := hown
  have hnm := (name_of_methodNamed Bd.named Bd.method).1
  have hret := Bd.returns
  have X0 : Stand p l e ({ frames := 2, cells := 0, slots := 0, locals := 28 } : Room) s m #[(.ref a)] below meth c s₁ [] 0 0 := Stand.of_body Bd
  have e0 : s₁.heap = h0 := by rw [← hh, Bd.state]; rfl
  have N0 := Fr.nil n0
  have sz := Z0
  have K := Keep.refl h0 []
  show Runs p.tables e below (Phi s (Q_rmO4 Z a oe om s0 zc b v0 k1 kv0 x0 x1 x2 x3 x4 h0 n0) ({ frames := 2, cells := 0, slots := 0, locals := 28 } : Room).cells ({ frames := 2, cells := 0, slots := 0, locals := 28 } : Room).slots) _
  refine Runs.st (fun t' k' => castTop (ef_prog_4_method_4_R m a ) k') ?_
  show Runs p.tables e below _ (s₁.setTop (mkF m 0 #[.val (.ref a)] []))
  refine Runs.st (fun t' k' => XS.aloadN X0.here hx rfl (hb hby d_prog_4_method_4_0) rfl rfl k') ?_
  obtain ⟨T1_, X1_, e1_, st1_⟩ := getS2 X0 hx hZ hown (host := "") (Or.inl (hw _ (List.mem_of_getElem? (i := 69) rfl))) Via.refl e0 S0 (g := (mkF m 1 #[.val (.ref a)] [(.ref a)])) rfl (hb hby d_prog_4_method_4_1)
  refine Runs.st (st1_) ?_
  show Runs p.tables e below _ (T1_.setTop (mkF m 4 #[.val (.ref a)] [(.ref oe), (.ref a)]))
  obtain ⟨T2_, X2_, e2_, st2_⟩ := getF X1_ hx hZ hown (host := "") (Or.inl (hw _ (List.mem_of_getElem? (i := 70) rfl))) Via.refl e1_ Fs0 (g := (mkF m 4 #[.val (.ref a)] [(.ref oe), (.ref a)])) rfl rfl (hb hby d_prog_4_method_4_4)
  refine Runs.st (st2_) ?_
  show Runs p.tables e below _ (T2_.setTop (mkF m 7 #[.val (.ref a)] [(.ref s0), (.ref a)]))
  obtain ⟨cq3_, kq3_, q3_a, q3_b, q3_c⟩ := isOf hZ e2_ Ea
  obtain ⟨_, _, ⟨T3_, L3_, k3_, n3_⟩, -, X3_, ⟨Lc3_, hQ3_, l3_, y3_, z3_⟩, st3_⟩ := X2_.virtualBack hx (y := (⟨"java/lang/String", "equals", "(Ljava/lang/Object;)Z"⟩ : MethodName)) (z := (⟨"java/lang/String", "equals", "(Ljava/lang/Object;)Z"⟩ : MethodName)) hown (mvT hZ (hw _ (List.mem_of_getElem? (i := 72) rfl))) (mvT hZ (hw _ (List.mem_of_getElem? (i := 73) rfl))) (notFace_of_selects (args := #[]) (mvT hZ (hw _ (List.mem_of_getElem? (i := 75) rfl)))) (mvT hZ (hw _ (List.mem_of_getElem? (i := 75) rfl))) (mvT hZ (hw _ (List.mem_of_getElem? (i := 74) rfl))) (by decide) (backOf (W := 0) (rmS4 l Z a0 hw [] a s0 zc b v0 k1 kv0 x0 x1 x2 x3 x4 h0 n0 sz hne Sc hzc Ea Ca Va Es0 Fc0 Fv0 V1 V0 y0 y1 y2 y3 y4) hZ (hw _ (List.mem_of_getElem? (i := 76) rfl)) (hw _ (List.mem_of_getElem? (i := 4) rfl)) (by decide) (by decide)) q3_a q3_c (g := (mkF m 7 #[.val (.ref a)] [(.ref s0), (.ref a)])) rfl (by rw [hml]; rfl) (Steps.refl _) (argsL := [(.ref s0)]) (rest := []) (lenOf pd__28Ljava_2flang_2fObject_3b_29Z rfl) rfl (by show 2 * 0 + _ ≤ _; exact Nat.le_of_eq rfl) (hb hby d_prog_4_method_4_7) (fun _ _ => ⟨rfl, e2_, (by decide : 0 + 0 ≤ _), (by decide : 0 + 0 ≤ _)⟩)
  dsimp only [Pt.U, Pt.locs, Pt.cells, Pt.slots] at X3_ l3_ y3_ z3_ st3_ hQ3_
  subst l3_ y3_ z3_
  obtain ⟨rfl, N3_q, e3_⟩ := hQ3_
  have N3_ := Fr.app N0 N3_q
  refine Runs.tr st3_ ?_
  replace X3_ := wider X3_ (c' := 0) (s' := 0) (by decide) (by decide)
  show Runs p.tables e below _ (T3_.setTop (mkF m 10 #[.val (.ref a)] [(.int (0 : Int32))]))
  refine Runs.st (fun t' k' => XS.ifYes X3_.here hx rfl (pc0 := 10) (pc' := 19) rfl (hb hby d_prog_4_method_4_10) rfl ((if0 _ _).trans (teq rfl).1) (by decide) (by decide) k') ?_
  show Runs p.tables e below _ (T3_.setTop (mkF m 19 #[.val (.ref a)] []))
  obtain ⟨T4_, X4_, e4_, st4_⟩ := getS2 X3_ hx hZ hown (host := "") (Or.inl (hw _ (List.mem_of_getElem? (i := 88) rfl))) Via.refl e3_ S1 (g := (mkF m 19 #[.val (.ref a)] [])) rfl (hb hby d_prog_4_method_4_19)
  refine Runs.st (st4_) ?_
  show Runs p.tables e below _ (T4_.setTop (mkF m 22 #[.val (.ref a)] [(.ref om)]))
  refine Runs.ret X4_ hlk (v := (some (.ref om))) (fun h => by rw [hret] at h; cases h) (by decide) (by decide) ?_ (fun fs hr => retOut X4_ hx hret rfl (Or.inr (Or.inr (Or.inr (Or.inr ⟨rfl, rfl, rfl⟩)))) (hb hby d_prog_4_method_4_22) hr)
  try rw [e4_]
  exact ⟨rfl, N3_, rfl⟩
def Q_rmOA (Z : State) (a : Addr) (oe om s0 : Addr) (zc : Int32) (b v0 : Addr) (k1 kv0 : ClassId) (x0 x1 x2 x3 x4 : Int32) (h0 : Heap) (n0 : Nat) : Option Value → Heap → List Loc → Prop := (fun v h L => v = some (.ref oe) ∧ Fr n0 L ∧ h = h0)
set_option maxRecDepth 65536 in
set_option maxHeartbeats 40000000 in
theorem rmOA (l : Launch) (Z : State) (a0 : Array Value) (hw : ∀ d ∈ tables_1, d.before a0 Z = true) (ws : List Jvm.Cond) (a : Addr) (oe om s0 : Addr) (zc : Int32) (b v0 : Addr) (k1 kv0 : ClassId) (x0 x1 x2 x3 x4 : Int32) (h0 : Heap) (n0 : Nat) (Z0 : n0 ≤ h0.size) (S0 : Sta Z h0 "com/example/standing_order/standingorder/api/InstanceForm" "REDIS" "Lcom/example/standing_order/standingorder/api/InstanceForm;" (.ref oe)) (S1 : Sta Z h0 "com/example/standing_order/standingorder/api/InstanceForm" "MONGODB" "Lcom/example/standing_order/standingorder/api/InstanceForm;" (.ref om)) (Fs0 : Fld Z h0 oe "com/example/standing_order/standingorder/api/InstanceForm" "engine" "Ljava/lang/String;" (.ref s0)) (hne : a ≠ s0) (Sc : Sta Z h0 "java/lang/String" "COMPACT_STRINGS" "Z" (.int zc)) (hzc : ¬ zc = 0) (Ea : Exa Z h0 a "java/lang/String") (Ca : Fld Z h0 a "java/lang/String" "coder" "B" (.int (0 : Int32))) (Va : Fld Z h0 a "java/lang/String" "value" "[B" (.ref b)) (Es0 : Exa Z h0 s0 "java/lang/String") (Fc0 : Fld Z h0 s0 "java/lang/String" "coder" "B" (.int (0 : Int32))) (Fv0 : Fld Z h0 s0 "java/lang/String" "value" "[B" (.ref v0)) (V1 : Arv Z h0 b k1 .byte (5 : Int32) [(.int x0), (.int x1), (.int x2), (.int x3), (.int x4)] (.int (0 : Int32))) (V0 : Arv Z h0 v0 kv0 .byte (5 : Int32) [(.int (82 : Int32)), (.int (101 : Int32)), (.int (100 : Int32)), (.int (105 : Int32)), (.int (115 : Int32))] (.int (0 : Int32))) (y0 : x0 = (82 : Int32)) (y1 : x1 = (101 : Int32)) (y2 : x2 = (100 : Int32)) (y3 : x3 = (105 : Int32)) (y4 : x4 = (115 : Int32)) :
    MetFree l (⟨"com/example/standing_order/standingorder/api/InstanceForm", "ofEngine", "(Ljava/lang/String;)Lcom/example/standing_order/standingorder/api/InstanceForm;"⟩ : MethodName) (head1 (Jvm.Cond.code (⟨"com/example/standing_order/standingorder/api/InstanceForm", "ofEngine", "(Ljava/lang/String;)Lcom/example/standing_order/standingorder/api/InstanceForm;"⟩ : MethodName) prog_4_method_4_code 1 (some (.object "com/example/standing_order/standingorder/api/InstanceForm")) :: ws) ({ frames := 2, cells := 0, slots := 0, locals := 28 } : Room)) (fun ar_ U => ar_ = #[(.ref a)] ∧ Z.Warmed39 U.vm ∧ U.heap = h0) (fun _ _ _ _ _ => True) (fun _ U o U' => Phi U (Q_rmOA Z a oe om s0 zc b v0 k1 kv0 x0 x1 x2 x3 x4 h0 n0) ({ frames := 2, cells := 0, slots := 0, locals := 28 } : Room).cells ({ frames := 2, cells := 0, slots := 0, locals := 28 } : Room).slots o U') := by
  refine MetFree.of_bodySF (plainFor_of_name pn_com_example_standing_order_standingorder_api_InstanceForm) hisR ?_
  intro p e s m args below meth c s₁ Bd hml0 hP hK
  obtain ⟨rfl, hZ, hh⟩ := hP
  have hx := Bd.exec
  have hby := Bd.bytes
  have hlk := Bd.notSynchronized
  have hml : c.maxLocals = 1 := hml0
  have hown : s.vm.findClass "com/example/standing_order/standingorder/api/InstanceForm" = some m.cls := findClass_of_methodNamed Bd.named
  have hown0 := hown
  have hnm := (name_of_methodNamed Bd.named Bd.method).1
  have hret := Bd.returns
  have X0 : Stand p l e ({ frames := 2, cells := 0, slots := 0, locals := 28 } : Room) s m #[(.ref a)] below meth c s₁ [] 0 0 := Stand.of_body Bd
  have e0 : s₁.heap = h0 := by rw [← hh, Bd.state]; rfl
  have N0 := Fr.nil n0
  have sz := Z0
  have K := Keep.refl h0 []
  show Runs p.tables e below (Phi s (Q_rmOA Z a oe om s0 zc b v0 k1 kv0 x0 x1 x2 x3 x4 h0 n0) ({ frames := 2, cells := 0, slots := 0, locals := 28 } : Room).cells ({ frames := 2, cells := 0, slots := 0, locals := 28 } : Room).slots) _
  refine Runs.st (fun t' k' => castTop (ef_prog_4_method_4_R m a ) k') ?_
  show Runs p.tables e below _ (s₁.setTop (mkF m 0 #[.val (.ref a)] []))
  refine Runs.st (fun t' k' => XS.aloadN X0.here hx rfl (hb hby d_prog_4_method_4_0) rfl rfl k') ?_
  obtain ⟨T1_, X1_, e1_, st1_⟩ := getS2 X0 hx hZ hown (host := "") (Or.inl (hw _ (List.mem_of_getElem? (i := 69) rfl))) Via.refl e0 S0 (g := (mkF m 1 #[.val (.ref a)] [(.ref a)])) rfl (hb hby d_prog_4_method_4_1)
  refine Runs.st (st1_) ?_
  show Runs p.tables e below _ (T1_.setTop (mkF m 4 #[.val (.ref a)] [(.ref oe), (.ref a)]))
  obtain ⟨T2_, X2_, e2_, st2_⟩ := getF X1_ hx hZ hown (host := "") (Or.inl (hw _ (List.mem_of_getElem? (i := 70) rfl))) Via.refl e1_ Fs0 (g := (mkF m 4 #[.val (.ref a)] [(.ref oe), (.ref a)])) rfl rfl (hb hby d_prog_4_method_4_4)
  refine Runs.st (st2_) ?_
  show Runs p.tables e below _ (T2_.setTop (mkF m 7 #[.val (.ref a)] [(.ref s0), (.ref a)]))
  obtain ⟨cq3_, kq3_, q3_a, q3_b, q3_c⟩ := isOf hZ e2_ Ea
  obtain ⟨_, _, ⟨T3_, L3_, k3_, n3_⟩, -, X3_, ⟨Lc3_, hQ3_, l3_, y3_, z3_⟩, st3_⟩ := X2_.virtualBack hx (y := (⟨"java/lang/String", "equals", "(Ljava/lang/Object;)Z"⟩ : MethodName)) (z := (⟨"java/lang/String", "equals", "(Ljava/lang/Object;)Z"⟩ : MethodName)) hown (mvT hZ (hw _ (List.mem_of_getElem? (i := 72) rfl))) (mvT hZ (hw _ (List.mem_of_getElem? (i := 73) rfl))) (notFace_of_selects (args := #[]) (mvT hZ (hw _ (List.mem_of_getElem? (i := 75) rfl)))) (mvT hZ (hw _ (List.mem_of_getElem? (i := 75) rfl))) (mvT hZ (hw _ (List.mem_of_getElem? (i := 74) rfl))) (by decide) (backOf (W := 0) (rmSA l Z a0 hw [] a s0 zc b v0 k1 kv0 x0 x1 x2 x3 x4 h0 n0 sz hne Sc hzc Ea Ca Va Es0 Fc0 Fv0 V1 V0 y0 y1 y2 y3 y4) hZ (hw _ (List.mem_of_getElem? (i := 76) rfl)) (hw _ (List.mem_of_getElem? (i := 4) rfl)) (by decide) (by decide)) q3_a q3_c (g := (mkF m 7 #[.val (.ref a)] [(.ref s0), (.ref a)])) rfl (by rw [hml]; rfl) (Steps.refl _) (argsL := [(.ref s0)]) (rest := []) (lenOf pd__28Ljava_2flang_2fObject_3b_29Z rfl) rfl (by show 2 * 0 + _ ≤ _; exact Nat.le_of_eq rfl) (hb hby d_prog_4_method_4_7) (fun _ _ => ⟨rfl, e2_, (by decide : 0 + 0 ≤ _), (by decide : 0 + 0 ≤ _)⟩)
  dsimp only [Pt.U, Pt.locs, Pt.cells, Pt.slots] at X3_ l3_ y3_ z3_ st3_ hQ3_
  subst l3_ y3_ z3_
  obtain ⟨rfl, N3_q, e3_⟩ := hQ3_
  have N3_ := Fr.app N0 N3_q
  refine Runs.tr st3_ ?_
  replace X3_ := wider X3_ (c' := 0) (s' := 0) (by decide) (by decide)
  show Runs p.tables e below _ (T3_.setTop (mkF m 10 #[.val (.ref a)] [(.int (1 : Int32))]))
  refine Runs.st (fun t' k' => XS.ifNo X3_.here hx rfl (hb hby d_prog_4_method_4_10) rfl ((if0 _ _).trans (feq (by decide)).1) k') ?_
  show Runs p.tables e below _ (T3_.setTop (mkF m 13 #[.val (.ref a)] []))
  obtain ⟨T4_, X4_, e4_, st4_⟩ := getS2 X3_ hx hZ hown (host := "") (Or.inl (hw _ (List.mem_of_getElem? (i := 69) rfl))) Via.refl e3_ S0 (g := (mkF m 13 #[.val (.ref a)] [])) rfl (hb hby d_prog_4_method_4_13)
  refine Runs.st (st4_) ?_
  show Runs p.tables e below _ (T4_.setTop (mkF m 16 #[.val (.ref a)] [(.ref oe)]))
  refine Runs.st (fun t' k' => XS.goto X4_.here hx rfl (pc0 := 16) (pc' := 22) rfl (hb hby d_prog_4_method_4_16) (by decide) (by decide) k') ?_
  refine Runs.ret X4_ hlk (v := (some (.ref oe))) (fun h => by rw [hret] at h; cases h) (by decide) (by decide) ?_ (fun fs hr => retOut X4_ hx hret rfl (Or.inr (Or.inr (Or.inr (Or.inr ⟨rfl, rfl, rfl⟩)))) (hb hby d_prog_4_method_4_22) hr)
  try rw [e4_]
  exact ⟨rfl, N3_, rfl⟩
def Q_rmEng (Z : State) (a : Addr) (r : Addr) (h0 : Heap) (n0 : Nat) : Option Value → Heap → List Loc → Prop := (fun v h L => v = some (.ref r) ∧ Fr n0 L ∧ h = h0)
theorem ef_prog_4_method_6_R (m : MethodId) (x0 : Addr)  : entryFrame m #[(.ref x0)] 1 = mkF m 0 #[.val (.ref x0)] [] := by first | (simp [entryFrame, mkF, argsToLocals, Value.category]; done) | rfl
theorem d_prog_4_method_6_0 : decode prog_4_method_6_code 0 = .ok (.aload_n 0, 1) := by decide +kernel
theorem d_prog_4_method_6_1 : decode prog_4_method_6_code 1 = .ok (.getfield 29, 3) := by decide +kernel
theorem d_prog_4_method_6_4 : decode prog_4_method_6_code 4 = .ok (.areturn, 1) := by decide +kernel
set_option maxRecDepth 65536 in
set_option maxHeartbeats 40000000 in
theorem rmEng (l : Launch) (Z : State) (a0 : Array Value) (hw : ∀ d ∈ tables_1, d.before a0 Z = true) (ws : List Jvm.Cond) (a : Addr) (r : Addr) (h0 : Heap) (n0 : Nat) (Z0 : n0 ≤ h0.size) (F1 : Fld Z h0 a "com/example/standing_order/standingorder/api/InstanceForm" "engine" "Ljava/lang/String;" (.ref r)) :
    MetFree l (⟨"com/example/standing_order/standingorder/api/InstanceForm", "engine", "()Ljava/lang/String;"⟩ : MethodName) (head1 (Jvm.Cond.code (⟨"com/example/standing_order/standingorder/api/InstanceForm", "engine", "()Ljava/lang/String;"⟩ : MethodName) prog_4_method_6_code 1 (some (.object "java/lang/String")) :: ws) ({ frames := 0, cells := 0, slots := 0, locals := 0 } : Room)) (fun ar_ U => ar_ = #[(.ref a)] ∧ Z.Warmed39 U.vm ∧ U.heap = h0) (fun _ _ _ _ _ => True) (fun _ U o U' => Phi U (Q_rmEng Z a r h0 n0) ({ frames := 0, cells := 0, slots := 0, locals := 0 } : Room).cells ({ frames := 0, cells := 0, slots := 0, locals := 0 } : Room).slots o U') := by
  refine MetFree.of_bodySF (plainFor_of_name pn_com_example_standing_order_standingorder_api_InstanceForm) hisR ?_
  intro p e s m args below meth c s₁ Bd hml0 hP hK
  obtain ⟨rfl, hZ, hh⟩ := hP
  have hx := Bd.exec
  have hby := Bd.bytes
  have hlk := Bd.notSynchronized
  have hml : c.maxLocals = 1 := hml0
  have hown : s.vm.findClass "com/example/standing_order/standingorder/api/InstanceForm" = some m.cls := findClass_of_methodNamed Bd.named
  have hown0 := hown
  have hnm := (name_of_methodNamed Bd.named Bd.method).1
  have hret := Bd.returns
  have X0 : Stand p l e ({ frames := 0, cells := 0, slots := 0, locals := 0 } : Room) s m #[(.ref a)] below meth c s₁ [] 0 0 := Stand.of_body Bd
  have e0 : s₁.heap = h0 := by rw [← hh, Bd.state]; rfl
  have N0 := Fr.nil n0
  have sz := Z0
  have K := Keep.refl h0 []
  show Runs p.tables e below (Phi s (Q_rmEng Z a r h0 n0) ({ frames := 0, cells := 0, slots := 0, locals := 0 } : Room).cells ({ frames := 0, cells := 0, slots := 0, locals := 0 } : Room).slots) _
  refine Runs.st (fun t' k' => castTop (ef_prog_4_method_6_R m a ) k') ?_
  show Runs p.tables e below _ (s₁.setTop (mkF m 0 #[.val (.ref a)] []))
  refine Runs.st (fun t' k' => XS.aloadN X0.here hx rfl (hb hby d_prog_4_method_6_0) rfl rfl k') ?_
  obtain ⟨T1_, X1_, e1_, st1_⟩ := getF X0 hx hZ hown (host := "") (Or.inl (hw _ (List.mem_of_getElem? (i := 70) rfl))) Via.refl e0 F1 (g := (mkF m 1 #[.val (.ref a)] [(.ref a)])) rfl rfl (hb hby d_prog_4_method_6_1)
  refine Runs.st (st1_) ?_
  show Runs p.tables e below _ (T1_.setTop (mkF m 4 #[.val (.ref a)] [(.ref r)]))
  refine Runs.ret X1_ hlk (v := (some (.ref r))) (fun h => by rw [hret] at h; cases h) (by decide) (by decide) ?_ (fun fs hr => retOut X1_ hx hret rfl (Or.inr (Or.inr (Or.inr (Or.inr ⟨rfl, rfl, rfl⟩)))) (hb hby d_prog_4_method_6_4) hr)
  try rw [e1_]
  exact ⟨rfl, N0, rfl⟩
theorem pd__28_5bC_29V : parseMethodDescriptor "([C)V" = some ⟨[(.array .char)], none⟩ := by decide +kernel
theorem pd__28_29I : parseMethodDescriptor "()I" = some ⟨[], some .int⟩ := by decide +kernel
theorem pd__28I_29C : parseMethodDescriptor "(I)C" = some ⟨[.int], some .char⟩ := by decide +kernel
theorem pd__28Ljava_2flang_2fString_3b_29Lcom_2fexample_2fstanding_order_2fstandingorder_2fapi_2fInstanceForm_3b : parseMethodDescriptor "(Ljava/lang/String;)Lcom/example/standing_order/standingorder/api/InstanceForm;" = some ⟨[(.object "java/lang/String")], some (.object "com/example/standing_order/standingorder/api/InstanceForm")⟩ := by decide +kernel
theorem pd__28_29Ljava_2flang_2fString_3b : parseMethodDescriptor "()Ljava/lang/String;" = some ⟨[], some (.object "java/lang/String")⟩ := by decide +kernel
set_option maxRecDepth 65536 in
set_option maxHeartbeats 40000000 in
theorem seg5 {p : Program} {l : Launch} {e : Env} {s : State} {m : MethodId} {args : Array Value} {below : List Frame} {meth : Method} {c : Code} {T0 : State} {locs : List Loc} {Z : State} {a0 : Array Value} {h0 hq : Heap} {n0 : Nat} {vm0 : Vm} {k0 : Nat} (i0 i1 i2 i3 md ps ch : Int32) (b1 b2 b3 b4 : Addr) (c0 c1 c2 c3 c4 : Int32) (kb : ClassId) (oe om s0 s1 v0 v1 : Addr) (kv0 kv1 : ClassId) (zc : Int32) (fm : Value)
    (X0 : Stand p l e room_1 (s.setVm vm0) m args below meth c T0 locs 4 15) (hx : p.tables.exec = Jvm.exec) (hw : ∀ d ∈ tables_1, d.before a0 Z = true) (hby : c.code = code) (hml : c.maxLocals = 15) (hlk : meth.locks = false) (hret : meth.sig.returnType = ret) (e0 : T0.heap = hq) (N0 : Fr n0 locs) (sz : n0 ≤ hq.size) (K : Keep h0 hq []) (hZ : Z.Warmed39 (s.setVm vm0).vm) (hown : (s.setVm vm0).vm.findClass "com/example/standing_order/standingorder/api/InstanceFormOfEnginePinLaw" = some m.cls) (hS : s.Since vm0 k0) (hk : k0 ≤ hq.size) (hZ0 : Z.Warmed39 s.vm) (hown0 : s.vm.findClass "com/example/standing_order/standingorder/api/InstanceFormOfEnginePinLaw" = some m.cls) (hkeep : ∀ (b : Addr) (cl : Cell), Z.heap[b]? = some cl → s.heap[b]? = some cl) (hsn : n0 = s.heap.size) (IB0 : IB Z vm0 []) (old : Old Z n0 hq) (Sc : Sta Z Z.heap "java/lang/String" "COMPACT_STRINGS" "Z" (.int zc)) (hzc : ¬ zc = 0) (Sf : Sta Z Z.heap "jdk/internal/util/Preconditions" "SIOOBE_FORMATTER" "Ljava/util/function/BiFunction;" fm) (hfm : fm.isRef = true) (hs10 : s1 ≠ s0) (S0 : Sta Z Z.heap "com/example/standing_order/standingorder/api/InstanceForm" "REDIS" "Lcom/example/standing_order/standingorder/api/InstanceForm;" (.ref oe)) (E0 : Exa Z Z.heap oe "com/example/standing_order/standingorder/api/InstanceForm") (Fs0 : Fld Z Z.heap oe "com/example/standing_order/standingorder/api/InstanceForm" "engine" "Ljava/lang/String;" (.ref s0)) (Es0 : Exa Z Z.heap s0 "java/lang/String") (Fc0 : Fld Z Z.heap s0 "java/lang/String" "coder" "B" (.int (0 : Int32))) (Fv0 : Fld Z Z.heap s0 "java/lang/String" "value" "[B" (.ref v0)) (V0 : Arv Z Z.heap v0 kv0 .byte (5 : Int32) [(.int (82 : Int32)), (.int (101 : Int32)), (.int (100 : Int32)), (.int (105 : Int32)), (.int (115 : Int32))] (.int (0 : Int32))) (S1 : Sta Z Z.heap "com/example/standing_order/standingorder/api/InstanceForm" "MONGODB" "Lcom/example/standing_order/standingorder/api/InstanceForm;" (.ref om)) (E1 : Exa Z Z.heap om "com/example/standing_order/standingorder/api/InstanceForm") (Fs1 : Fld Z Z.heap om "com/example/standing_order/standingorder/api/InstanceForm" "engine" "Ljava/lang/String;" (.ref s1)) (Es1 : Exa Z Z.heap s1 "java/lang/String") (Fc1 : Fld Z Z.heap s1 "java/lang/String" "coder" "B" (.int (0 : Int32))) (Fv1 : Fld Z Z.heap s1 "java/lang/String" "value" "[B" (.ref v1)) (V1 : Arv Z Z.heap v1 kv1 .byte (7 : Int32) [(.int (77 : Int32)), (.int (111 : Int32)), (.int (110 : Int32)), (.int (103 : Int32)), (.int (111 : Int32)), (.int (68 : Int32)), (.int (66 : Int32))] (.int (0 : Int32))) (V_b1 : Arv Z hq b1 kb .char (5 : Int32) [(.int c0), (.int c1), (.int c2), (.int c3), (.int c4)] (.int (0 : Int32))) (r0 : 0 ≤ c0.toInt ∧ c0.toInt ≤ 255) (r1 : 0 ≤ c1.toInt ∧ c1.toInt ≤ 255) (r2 : 0 ≤ c2.toInt ∧ c2.toInt ≤ 255) (r3 : 0 ≤ c3.toInt ∧ c3.toInt ≤ 255) (r4 : 0 ≤ c4.toInt ∧ c4.toInt ≤ 255) :
    Runs p.tables e below (PhiW s (fun v h L => v = some (.int 1) ∧ Fr n0 L) room_1.cells room_1.slots) (T0.setTop (mkF m 278 #[.val (.int i0), .val (.int i1), .val (.int i2), .val (.int i3), .val (.int md), .val (.int ps), .val (.int ch), .val (.ref b1), .val (.ref b2), .val (.ref b3), .val (.ref b4), .unset, .unset, .unset, .unset] [])) := by
  show Runs p.tables e below _ (T0.setTop (mkF m 278 #[.val (.int i0), .val (.int i1), .val (.int i2), .val (.int i3), .val (.int md), .val (.int ps), .val (.int ch), .val (.ref b1), .val (.ref b2), .val (.ref b3), .val (.ref b4), .unset, .unset, .unset, .unset] []))
  obtain ⟨T1_, h1_, X1_, e1_, E1_, A1_, D1_, -, st1_⟩ := newO X0 hx hZ hown (hw _ (List.mem_of_getElem? (i := 2) rfl)) (hw _ (List.mem_of_getElem? (i := 3) rfl)) (hw _ (List.mem_of_getElem? (i := 4) rfl)) e0 (g := (mkF m 278 #[.val (.int i0), .val (.int i1), .val (.int i2), .val (.int i3), .val (.int md), .val (.int ps), .val (.int ch), .val (.ref b1), .val (.ref b2), .val (.ref b3), .val (.ref b4), .unset, .unset, .unset, .unset] [])) rfl (hb hby at_278) (by decide) (by decide)
  refine Runs.st (st1_) ?_
  obtain ⟨b5, g1_⟩ : ∃ z, z = hq.size := ⟨_, rfl⟩
  rw [← g1_] at A1_ D1_
  try rw [← g1_]
  have g_b5 : n0 ≤ b5 := Nat.le_trans sz (Nat.le_of_eq g1_.symm)
  have sz_b5 : h0.size ≤ b5 := Nat.le_trans K.1 (Nat.le_of_eq g1_.symm)
  have ne_b1_b5 : b1 ≠ b5 := Nat.ne_of_lt (Nat.lt_of_lt_of_le V_b1.lt (Nat.le_of_eq g1_.symm))
  replace old := old.ext E1_
  replace V_b1 := V_b1.ext E1_
  replace sz := Nat.le_trans sz E1_.1
  replace K := K.ext E1_
  replace hk := Nat.le_trans hk E1_.1
  have E_b5 := A1_
  have F_b5_coder : Fld Z h1_ b5 "java/lang/String" "coder" "B" (.int (0 : Int32)) := D1_ (Or.inr (hw _ (List.mem_of_getElem? (i := 28) rfl))) (ty := .byte) (by decide)
  have F_b5_value : Fld Z h1_ b5 "java/lang/String" "value" "[B" .null := D1_ (Or.inr (hw _ (List.mem_of_getElem? (i := 30) rfl))) (ty := (.array .byte)) (by decide)
  show Runs p.tables e below _ (T1_.setTop (mkF m 281 #[.val (.int i0), .val (.int i1), .val (.int i2), .val (.int i3), .val (.int md), .val (.int ps), .val (.int ch), .val (.ref b1), .val (.ref b2), .val (.ref b3), .val (.ref b4), .unset, .unset, .unset, .unset] [(.ref b5)]))
  refine Runs.st (fun t' k' => XS.dup X1_.here hx rfl (hb hby at_281) rfl rfl k') ?_
  refine Runs.st (fun t' k' => XS.aload X1_.here hx rfl (hb hby at_282) rfl rfl k') ?_
  have kz2_ := K.1
  have gz2_ := sz
  have lt2__b1 := V_b1.lt
  have lt2__b5 := E_b5.lt
  obtain ⟨_, _, ⟨T2_, L2_, k2_, n2_⟩, -, X2_, ⟨Lc2_, hQ2_, l2_, y2_, z2_⟩, st2_⟩ := X1_.specialBack hx (y := (⟨"java/lang/String", "<init>", "([C)V"⟩ : MethodName)) rfl hown (mvT hZ (hw _ (List.mem_of_getElem? (i := 5) rfl))) (mvT hZ (hw _ (List.mem_of_getElem? (i := 6) rfl))) (mvT hZ (hw _ (List.mem_of_getElem? (i := 7) rfl))) (by decide) (backOf (W := 1) (rmIC5 l Z a0 hw [] b5 b1 c0 c1 c2 c3 c4 _ zc h1_ n0 sz E_b5 F_b5_value F_b5_coder g_b5 V_b1 (Sc.ext old.2) hzc (own_u _ r0) (own_u _ r1) (own_u _ r2) (own_u _ r3) (own_u _ r4)) hZ (hw _ (List.mem_of_getElem? (i := 7) rfl)) (hw _ (List.mem_of_getElem? (i := 4) rfl)) (by decide) (by decide)) (g := (mkF m 284 #[.val (.int i0), .val (.int i1), .val (.int i2), .val (.int i3), .val (.int md), .val (.int ps), .val (.int ch), .val (.ref b1), .val (.ref b2), .val (.ref b3), .val (.ref b4), .unset, .unset, .unset, .unset] [(.ref b1), (.ref b5), (.ref b5)])) rfl (by rw [hml]; rfl) (Steps.refl _) (a := b5) (argsL := [(.ref b1)]) (rest := [(.ref b5)]) (lenOf pd__28_5bC_29V rfl) rfl (by show 2 * 0 + _ ≤ _; exact Nat.le_of_eq rfl) (hb hby at_284) (fun _ _ => ⟨rfl, e1_, (by decide : 5 + 1 ≤ _), (by decide : 19 + 5 ≤ _)⟩)
  dsimp only [Pt.U, Pt.locs, Pt.cells, Pt.slots] at X2_ l2_ y2_ z2_ st2_ hQ2_
  subst l2_ y2_ z2_
  obtain ⟨rfl, N2_q, K2_, E_b5, Fc_b5, b6, kb6, szb, Fv_b5, V_b6⟩ := hQ2_
  have N2_ := Fr.app N0 N2_q
  refine Runs.tr st2_ ?_
  replace X2_ := wider X2_ (c' := 6) (s' := 24) (by decide) (by decide)
  replace old := old.keep K2_ (allS g_b5 all0)
  replace V_b1 := V_b1.keep K2_ (ninS ne_b1_b5 nin0)
  replace sz := Nat.le_trans sz K2_.1
  replace hk := Nat.le_trans hk K2_.1
  replace K := K.trans K2_ (allS (Or.inr sz_b5) all0)
  have sz_b6 : h0.size ≤ b6 := Nat.le_trans kz2_ szb
  have g_b6 : n0 ≤ b6 := Nat.le_trans gz2_ szb
  have ne_b1_b6 : b1 ≠ b6 := Nat.ne_of_lt (Nat.lt_of_lt_of_le lt2__b1 szb)
  have ne_b5_b6 : b5 ≠ b6 := Nat.ne_of_lt (Nat.lt_of_lt_of_le lt2__b5 szb)
  show Runs p.tables e below _ (T2_.setTop (mkF m 287 #[.val (.int i0), .val (.int i1), .val (.int i2), .val (.int i3), .val (.int md), .val (.int ps), .val (.int ch), .val (.ref b1), .val (.ref b2), .val (.ref b3), .val (.ref b4), .unset, .unset, .unset, .unset] [(.ref b5)]))
  refine Runs.st (fun t' k' => XS.astore X2_.here hx rfl (hb hby at_287) rfl rfl (l' := #[.val (.int i0), .val (.int i1), .val (.int i2), .val (.int i3), .val (.int md), .val (.int ps), .val (.int ch), .val (.ref b1), .val (.ref b2), .val (.ref b3), .val (.ref b4), .val (.ref b5), .unset, .unset, .unset]) rfl k') ?_
  refine Runs.st (fun t' k' => XS.aload X2_.here hx rfl (hb hby at_289) rfl rfl k') ?_
  obtain ⟨cq3_, kq3_, q3_a, q3_b, q3_c⟩ := isOf hZ rfl E_b5
  obtain ⟨_, _, ⟨T3_, L3_, k3_, n3_⟩, -, X3_, ⟨Lc3_, hQ3_, l3_, y3_, z3_⟩, st3_⟩ := X2_.virtualBack hx (y := (⟨"java/lang/String", "length", "()I"⟩ : MethodName)) (z := (⟨"java/lang/String", "length", "()I"⟩ : MethodName)) hown (mvT hZ (hw _ (List.mem_of_getElem? (i := 31) rfl))) (mvT hZ (hw _ (List.mem_of_getElem? (i := 32) rfl))) (notFace_of_selects (args := #[]) (mvT hZ (hw _ (List.mem_of_getElem? (i := 34) rfl)))) (mvT hZ (hw _ (List.mem_of_getElem? (i := 34) rfl))) (mvT hZ (hw _ (List.mem_of_getElem? (i := 33) rfl))) (by decide) (backOf (W := 0) (rmLen l Z a0 hw [] b5 zc b6 (5 : Int32) _ _ (5 : Int32) T2_.heap n0 sz E_b5 (Sc.ext old.2) hzc Fc_b5 Fv_b5 V_b6 (by decide)) hZ (hw _ (List.mem_of_getElem? (i := 35) rfl)) (hw _ (List.mem_of_getElem? (i := 4) rfl)) (by decide) (by decide)) q3_a q3_c (g := (mkF m 291 #[.val (.int i0), .val (.int i1), .val (.int i2), .val (.int i3), .val (.int md), .val (.int ps), .val (.int ch), .val (.ref b1), .val (.ref b2), .val (.ref b3), .val (.ref b4), .val (.ref b5), .unset, .unset, .unset] [(.ref b5)])) rfl (by rw [hml]; rfl) (Steps.refl _) (argsL := []) (rest := []) (lenOf pd__28_29I rfl) rfl (by show 2 * 0 + _ ≤ _; exact Nat.le_of_eq rfl) (hb hby at_291) (fun _ _ => ⟨rfl, rfl, (by decide : 6 + 0 ≤ _), (by decide : 24 + 0 ≤ _)⟩)
  dsimp only [Pt.U, Pt.locs, Pt.cells, Pt.slots] at X3_ l3_ y3_ z3_ st3_ hQ3_
  subst l3_ y3_ z3_
  obtain ⟨rfl, N3_q, e3_⟩ := hQ3_
  have N3_ := Fr.app N2_ N3_q
  refine Runs.tr st3_ ?_
  replace X3_ := wider X3_ (c' := 6) (s' := 24) (by decide) (by decide)
  show Runs p.tables e below _ (T3_.setTop (mkF m 294 #[.val (.int i0), .val (.int i1), .val (.int i2), .val (.int i3), .val (.int md), .val (.int ps), .val (.int ch), .val (.ref b1), .val (.ref b2), .val (.ref b3), .val (.ref b4), .val (.ref b5), .unset, .unset, .unset] [(.int (5 : Int32))]))
  refine Runs.st (fun t' k' => XS.iconst X3_.here hx rfl (hb hby at_294) k') ?_
  refine Runs.st (fun t' k' => XS.icmpNo X3_.here hx rfl (hb hby at_295) rfl (teq rfl).2 k') ?_
  show Runs p.tables e below _ (T3_.setTop (mkF m 298 #[.val (.int i0), .val (.int i1), .val (.int i2), .val (.int i3), .val (.int md), .val (.int ps), .val (.int ch), .val (.ref b1), .val (.ref b2), .val (.ref b3), .val (.ref b4), .val (.ref b5), .unset, .unset, .unset] []))
  refine Runs.st (fun t' k' => XS.aload X3_.here hx rfl (hb hby at_298) rfl rfl k') ?_
  refine Runs.st (fun t' k' => XS.iconst X3_.here hx rfl (hb hby at_300) k') ?_
  obtain ⟨cq4_, kq4_, q4_a, q4_b, q4_c⟩ := isOf hZ e3_ E_b5
  obtain ⟨_, _, ⟨T4_, L4_, k4_, n4_⟩, -, X4_, ⟨Lc4_, hQ4_, l4_, y4_, z4_⟩, st4_⟩ := X3_.virtualBack hx (y := (⟨"java/lang/String", "charAt", "(I)C"⟩ : MethodName)) (z := (⟨"java/lang/String", "charAt", "(I)C"⟩ : MethodName)) hown (mvT hZ (hw _ (List.mem_of_getElem? (i := 41) rfl))) (mvT hZ (hw _ (List.mem_of_getElem? (i := 42) rfl))) (notFace_of_selects (args := #[]) (mvT hZ (hw _ (List.mem_of_getElem? (i := 44) rfl)))) (mvT hZ (hw _ (List.mem_of_getElem? (i := 44) rfl))) (mvT hZ (hw _ (List.mem_of_getElem? (i := 43) rfl))) (by decide) (backOf (W := 0) (rmCh l Z a0 hw [] b5 (0 : Int32) zc b6 (5 : Int32) _ _ (nar .byte (c0.toInt8.toInt32)) fm c0 T2_.heap n0 sz E_b5 (Sc.ext old.2) hzc Fc_b5 Fv_b5 V_b6 (Sf.ext old.2) hfm (by decide) (by decide) rfl (own_ch c0 r0)) hZ (hw _ (List.mem_of_getElem? (i := 45) rfl)) (hw _ (List.mem_of_getElem? (i := 4) rfl)) (by decide) (by decide)) q4_a q4_c (g := (mkF m 301 #[.val (.int i0), .val (.int i1), .val (.int i2), .val (.int i3), .val (.int md), .val (.int ps), .val (.int ch), .val (.ref b1), .val (.ref b2), .val (.ref b3), .val (.ref b4), .val (.ref b5), .unset, .unset, .unset] [(.int (0 : Int32)), (.ref b5)])) rfl (by rw [hml]; rfl) (Steps.refl _) (argsL := [(.int (0 : Int32))]) (rest := []) (lenOf pd__28I_29C rfl) rfl (by show 2 * 0 + _ ≤ _; exact Nat.le_of_eq rfl) (hb hby at_301) (fun _ _ => ⟨rfl, e3_, (by decide : 6 + 0 ≤ _), (by decide : 24 + 0 ≤ _)⟩)
  dsimp only [Pt.U, Pt.locs, Pt.cells, Pt.slots] at X4_ l4_ y4_ z4_ st4_ hQ4_
  subst l4_ y4_ z4_
  obtain ⟨rfl, N4_q, e4_⟩ := hQ4_
  have N4_ := Fr.app N3_ N4_q
  refine Runs.tr st4_ ?_
  replace X4_ := wider X4_ (c' := 6) (s' := 24) (by decide) (by decide)
  show Runs p.tables e below _ (T4_.setTop (mkF m 304 #[.val (.int i0), .val (.int i1), .val (.int i2), .val (.int i3), .val (.int md), .val (.int ps), .val (.int ch), .val (.ref b1), .val (.ref b2), .val (.ref b3), .val (.ref b4), .val (.ref b5), .unset, .unset, .unset] [(.int c0)]))
  refine Runs.st (fun t' k' => XS.bipush X4_.here hx rfl (hb hby at_304) k') ?_
  by_cases d0 : c0 = (82 : Int32)
  · skip
    refine Runs.st (fun t' k' => XS.icmpNo X4_.here hx rfl (hb hby at_306) rfl (teq d0).2 k') ?_
    show Runs p.tables e below _ (T4_.setTop (mkF m 309 #[.val (.int i0), .val (.int i1), .val (.int i2), .val (.int i3), .val (.int md), .val (.int ps), .val (.int ch), .val (.ref b1), .val (.ref b2), .val (.ref b3), .val (.ref b4), .val (.ref b5), .unset, .unset, .unset] []))
    refine Runs.st (fun t' k' => XS.aload X4_.here hx rfl (hb hby at_309) rfl rfl k') ?_
    refine Runs.st (fun t' k' => XS.iconst X4_.here hx rfl (hb hby at_311) k') ?_
    obtain ⟨cq5_, kq5_, q5_a, q5_b, q5_c⟩ := isOf hZ e4_ E_b5
    obtain ⟨_, _, ⟨T5_, L5_, k5_, n5_⟩, -, X5_, ⟨Lc5_, hQ5_, l5_, y5_, z5_⟩, st5_⟩ := X4_.virtualBack hx (y := (⟨"java/lang/String", "charAt", "(I)C"⟩ : MethodName)) (z := (⟨"java/lang/String", "charAt", "(I)C"⟩ : MethodName)) hown (mvT hZ (hw _ (List.mem_of_getElem? (i := 41) rfl))) (mvT hZ (hw _ (List.mem_of_getElem? (i := 42) rfl))) (notFace_of_selects (args := #[]) (mvT hZ (hw _ (List.mem_of_getElem? (i := 44) rfl)))) (mvT hZ (hw _ (List.mem_of_getElem? (i := 44) rfl))) (mvT hZ (hw _ (List.mem_of_getElem? (i := 43) rfl))) (by decide) (backOf (W := 0) (rmCh l Z a0 hw [] b5 (1 : Int32) zc b6 (5 : Int32) _ _ (nar .byte (c1.toInt8.toInt32)) fm c1 T2_.heap n0 sz E_b5 (Sc.ext old.2) hzc Fc_b5 Fv_b5 V_b6 (Sf.ext old.2) hfm (by decide) (by decide) rfl (own_ch c1 r1)) hZ (hw _ (List.mem_of_getElem? (i := 45) rfl)) (hw _ (List.mem_of_getElem? (i := 4) rfl)) (by decide) (by decide)) q5_a q5_c (g := (mkF m 312 #[.val (.int i0), .val (.int i1), .val (.int i2), .val (.int i3), .val (.int md), .val (.int ps), .val (.int ch), .val (.ref b1), .val (.ref b2), .val (.ref b3), .val (.ref b4), .val (.ref b5), .unset, .unset, .unset] [(.int (1 : Int32)), (.ref b5)])) rfl (by rw [hml]; rfl) (Steps.refl _) (argsL := [(.int (1 : Int32))]) (rest := []) (lenOf pd__28I_29C rfl) rfl (by show 2 * 0 + _ ≤ _; exact Nat.le_of_eq rfl) (hb hby at_312) (fun _ _ => ⟨rfl, e4_, (by decide : 6 + 0 ≤ _), (by decide : 24 + 0 ≤ _)⟩)
    dsimp only [Pt.U, Pt.locs, Pt.cells, Pt.slots] at X5_ l5_ y5_ z5_ st5_ hQ5_
    subst l5_ y5_ z5_
    obtain ⟨rfl, N5_q, e5_⟩ := hQ5_
    have N5_ := Fr.app N4_ N5_q
    refine Runs.tr st5_ ?_
    replace X5_ := wider X5_ (c' := 6) (s' := 24) (by decide) (by decide)
    show Runs p.tables e below _ (T5_.setTop (mkF m 315 #[.val (.int i0), .val (.int i1), .val (.int i2), .val (.int i3), .val (.int md), .val (.int ps), .val (.int ch), .val (.ref b1), .val (.ref b2), .val (.ref b3), .val (.ref b4), .val (.ref b5), .unset, .unset, .unset] [(.int c1)]))
    refine Runs.st (fun t' k' => XS.bipush X5_.here hx rfl (hb hby at_315) k') ?_
    by_cases d1 : c1 = (101 : Int32)
    · skip
      refine Runs.st (fun t' k' => XS.icmpNo X5_.here hx rfl (hb hby at_317) rfl (teq d1).2 k') ?_
      show Runs p.tables e below _ (T5_.setTop (mkF m 320 #[.val (.int i0), .val (.int i1), .val (.int i2), .val (.int i3), .val (.int md), .val (.int ps), .val (.int ch), .val (.ref b1), .val (.ref b2), .val (.ref b3), .val (.ref b4), .val (.ref b5), .unset, .unset, .unset] []))
      refine Runs.st (fun t' k' => XS.aload X5_.here hx rfl (hb hby at_320) rfl rfl k') ?_
      refine Runs.st (fun t' k' => XS.iconst X5_.here hx rfl (hb hby at_322) k') ?_
      obtain ⟨cq6_, kq6_, q6_a, q6_b, q6_c⟩ := isOf hZ e5_ E_b5
      obtain ⟨_, _, ⟨T6_, L6_, k6_, n6_⟩, -, X6_, ⟨Lc6_, hQ6_, l6_, y6_, z6_⟩, st6_⟩ := X5_.virtualBack hx (y := (⟨"java/lang/String", "charAt", "(I)C"⟩ : MethodName)) (z := (⟨"java/lang/String", "charAt", "(I)C"⟩ : MethodName)) hown (mvT hZ (hw _ (List.mem_of_getElem? (i := 41) rfl))) (mvT hZ (hw _ (List.mem_of_getElem? (i := 42) rfl))) (notFace_of_selects (args := #[]) (mvT hZ (hw _ (List.mem_of_getElem? (i := 44) rfl)))) (mvT hZ (hw _ (List.mem_of_getElem? (i := 44) rfl))) (mvT hZ (hw _ (List.mem_of_getElem? (i := 43) rfl))) (by decide) (backOf (W := 0) (rmCh l Z a0 hw [] b5 (2 : Int32) zc b6 (5 : Int32) _ _ (nar .byte (c2.toInt8.toInt32)) fm c2 T2_.heap n0 sz E_b5 (Sc.ext old.2) hzc Fc_b5 Fv_b5 V_b6 (Sf.ext old.2) hfm (by decide) (by decide) rfl (own_ch c2 r2)) hZ (hw _ (List.mem_of_getElem? (i := 45) rfl)) (hw _ (List.mem_of_getElem? (i := 4) rfl)) (by decide) (by decide)) q6_a q6_c (g := (mkF m 323 #[.val (.int i0), .val (.int i1), .val (.int i2), .val (.int i3), .val (.int md), .val (.int ps), .val (.int ch), .val (.ref b1), .val (.ref b2), .val (.ref b3), .val (.ref b4), .val (.ref b5), .unset, .unset, .unset] [(.int (2 : Int32)), (.ref b5)])) rfl (by rw [hml]; rfl) (Steps.refl _) (argsL := [(.int (2 : Int32))]) (rest := []) (lenOf pd__28I_29C rfl) rfl (by show 2 * 0 + _ ≤ _; exact Nat.le_of_eq rfl) (hb hby at_323) (fun _ _ => ⟨rfl, e5_, (by decide : 6 + 0 ≤ _), (by decide : 24 + 0 ≤ _)⟩)
      dsimp only [Pt.U, Pt.locs, Pt.cells, Pt.slots] at X6_ l6_ y6_ z6_ st6_ hQ6_
      subst l6_ y6_ z6_
      obtain ⟨rfl, N6_q, e6_⟩ := hQ6_
      have N6_ := Fr.app N5_ N6_q
      refine Runs.tr st6_ ?_
      replace X6_ := wider X6_ (c' := 6) (s' := 24) (by decide) (by decide)
      show Runs p.tables e below _ (T6_.setTop (mkF m 326 #[.val (.int i0), .val (.int i1), .val (.int i2), .val (.int i3), .val (.int md), .val (.int ps), .val (.int ch), .val (.ref b1), .val (.ref b2), .val (.ref b3), .val (.ref b4), .val (.ref b5), .unset, .unset, .unset] [(.int c2)]))
      refine Runs.st (fun t' k' => XS.bipush X6_.here hx rfl (hb hby at_326) k') ?_
      by_cases d2 : c2 = (100 : Int32)
      · skip
        refine Runs.st (fun t' k' => XS.icmpNo X6_.here hx rfl (hb hby at_328) rfl (teq d2).2 k') ?_
        show Runs p.tables e below _ (T6_.setTop (mkF m 331 #[.val (.int i0), .val (.int i1), .val (.int i2), .val (.int i3), .val (.int md), .val (.int ps), .val (.int ch), .val (.ref b1), .val (.ref b2), .val (.ref b3), .val (.ref b4), .val (.ref b5), .unset, .unset, .unset] []))
        refine Runs.st (fun t' k' => XS.aload X6_.here hx rfl (hb hby at_331) rfl rfl k') ?_
        refine Runs.st (fun t' k' => XS.iconst X6_.here hx rfl (hb hby at_333) k') ?_
        obtain ⟨cq7_, kq7_, q7_a, q7_b, q7_c⟩ := isOf hZ e6_ E_b5
        obtain ⟨_, _, ⟨T7_, L7_, k7_, n7_⟩, -, X7_, ⟨Lc7_, hQ7_, l7_, y7_, z7_⟩, st7_⟩ := X6_.virtualBack hx (y := (⟨"java/lang/String", "charAt", "(I)C"⟩ : MethodName)) (z := (⟨"java/lang/String", "charAt", "(I)C"⟩ : MethodName)) hown (mvT hZ (hw _ (List.mem_of_getElem? (i := 41) rfl))) (mvT hZ (hw _ (List.mem_of_getElem? (i := 42) rfl))) (notFace_of_selects (args := #[]) (mvT hZ (hw _ (List.mem_of_getElem? (i := 44) rfl)))) (mvT hZ (hw _ (List.mem_of_getElem? (i := 44) rfl))) (mvT hZ (hw _ (List.mem_of_getElem? (i := 43) rfl))) (by decide) (backOf (W := 0) (rmCh l Z a0 hw [] b5 (3 : Int32) zc b6 (5 : Int32) _ _ (nar .byte (c3.toInt8.toInt32)) fm c3 T2_.heap n0 sz E_b5 (Sc.ext old.2) hzc Fc_b5 Fv_b5 V_b6 (Sf.ext old.2) hfm (by decide) (by decide) rfl (own_ch c3 r3)) hZ (hw _ (List.mem_of_getElem? (i := 45) rfl)) (hw _ (List.mem_of_getElem? (i := 4) rfl)) (by decide) (by decide)) q7_a q7_c (g := (mkF m 334 #[.val (.int i0), .val (.int i1), .val (.int i2), .val (.int i3), .val (.int md), .val (.int ps), .val (.int ch), .val (.ref b1), .val (.ref b2), .val (.ref b3), .val (.ref b4), .val (.ref b5), .unset, .unset, .unset] [(.int (3 : Int32)), (.ref b5)])) rfl (by rw [hml]; rfl) (Steps.refl _) (argsL := [(.int (3 : Int32))]) (rest := []) (lenOf pd__28I_29C rfl) rfl (by show 2 * 0 + _ ≤ _; exact Nat.le_of_eq rfl) (hb hby at_334) (fun _ _ => ⟨rfl, e6_, (by decide : 6 + 0 ≤ _), (by decide : 24 + 0 ≤ _)⟩)
        dsimp only [Pt.U, Pt.locs, Pt.cells, Pt.slots] at X7_ l7_ y7_ z7_ st7_ hQ7_
        subst l7_ y7_ z7_
        obtain ⟨rfl, N7_q, e7_⟩ := hQ7_
        have N7_ := Fr.app N6_ N7_q
        refine Runs.tr st7_ ?_
        replace X7_ := wider X7_ (c' := 6) (s' := 24) (by decide) (by decide)
        show Runs p.tables e below _ (T7_.setTop (mkF m 337 #[.val (.int i0), .val (.int i1), .val (.int i2), .val (.int i3), .val (.int md), .val (.int ps), .val (.int ch), .val (.ref b1), .val (.ref b2), .val (.ref b3), .val (.ref b4), .val (.ref b5), .unset, .unset, .unset] [(.int c3)]))
        refine Runs.st (fun t' k' => XS.bipush X7_.here hx rfl (hb hby at_337) k') ?_
        by_cases d3 : c3 = (105 : Int32)
        · skip
          refine Runs.st (fun t' k' => XS.icmpNo X7_.here hx rfl (hb hby at_339) rfl (teq d3).2 k') ?_
          show Runs p.tables e below _ (T7_.setTop (mkF m 342 #[.val (.int i0), .val (.int i1), .val (.int i2), .val (.int i3), .val (.int md), .val (.int ps), .val (.int ch), .val (.ref b1), .val (.ref b2), .val (.ref b3), .val (.ref b4), .val (.ref b5), .unset, .unset, .unset] []))
          refine Runs.st (fun t' k' => XS.aload X7_.here hx rfl (hb hby at_342) rfl rfl k') ?_
          refine Runs.st (fun t' k' => XS.iconst X7_.here hx rfl (hb hby at_344) k') ?_
          obtain ⟨cq8_, kq8_, q8_a, q8_b, q8_c⟩ := isOf hZ e7_ E_b5
          obtain ⟨_, _, ⟨T8_, L8_, k8_, n8_⟩, -, X8_, ⟨Lc8_, hQ8_, l8_, y8_, z8_⟩, st8_⟩ := X7_.virtualBack hx (y := (⟨"java/lang/String", "charAt", "(I)C"⟩ : MethodName)) (z := (⟨"java/lang/String", "charAt", "(I)C"⟩ : MethodName)) hown (mvT hZ (hw _ (List.mem_of_getElem? (i := 41) rfl))) (mvT hZ (hw _ (List.mem_of_getElem? (i := 42) rfl))) (notFace_of_selects (args := #[]) (mvT hZ (hw _ (List.mem_of_getElem? (i := 44) rfl)))) (mvT hZ (hw _ (List.mem_of_getElem? (i := 44) rfl))) (mvT hZ (hw _ (List.mem_of_getElem? (i := 43) rfl))) (by decide) (backOf (W := 0) (rmCh l Z a0 hw [] b5 (4 : Int32) zc b6 (5 : Int32) _ _ (nar .byte (c4.toInt8.toInt32)) fm c4 T2_.heap n0 sz E_b5 (Sc.ext old.2) hzc Fc_b5 Fv_b5 V_b6 (Sf.ext old.2) hfm (by decide) (by decide) rfl (own_ch c4 r4)) hZ (hw _ (List.mem_of_getElem? (i := 45) rfl)) (hw _ (List.mem_of_getElem? (i := 4) rfl)) (by decide) (by decide)) q8_a q8_c (g := (mkF m 345 #[.val (.int i0), .val (.int i1), .val (.int i2), .val (.int i3), .val (.int md), .val (.int ps), .val (.int ch), .val (.ref b1), .val (.ref b2), .val (.ref b3), .val (.ref b4), .val (.ref b5), .unset, .unset, .unset] [(.int (4 : Int32)), (.ref b5)])) rfl (by rw [hml]; rfl) (Steps.refl _) (argsL := [(.int (4 : Int32))]) (rest := []) (lenOf pd__28I_29C rfl) rfl (by show 2 * 0 + _ ≤ _; exact Nat.le_of_eq rfl) (hb hby at_345) (fun _ _ => ⟨rfl, e7_, (by decide : 6 + 0 ≤ _), (by decide : 24 + 0 ≤ _)⟩)
          dsimp only [Pt.U, Pt.locs, Pt.cells, Pt.slots] at X8_ l8_ y8_ z8_ st8_ hQ8_
          subst l8_ y8_ z8_
          obtain ⟨rfl, N8_q, e8_⟩ := hQ8_
          have N8_ := Fr.app N7_ N8_q
          refine Runs.tr st8_ ?_
          replace X8_ := wider X8_ (c' := 6) (s' := 24) (by decide) (by decide)
          show Runs p.tables e below _ (T8_.setTop (mkF m 348 #[.val (.int i0), .val (.int i1), .val (.int i2), .val (.int i3), .val (.int md), .val (.int ps), .val (.int ch), .val (.ref b1), .val (.ref b2), .val (.ref b3), .val (.ref b4), .val (.ref b5), .unset, .unset, .unset] [(.int c4)]))
          refine Runs.st (fun t' k' => XS.bipush X8_.here hx rfl (hb hby at_348) k') ?_
          by_cases d4 : c4 = (115 : Int32)
          · skip
            refine Runs.st (fun t' k' => XS.icmpNo X8_.here hx rfl (hb hby at_350) rfl (teq d4).2 k') ?_
            show Runs p.tables e below _ (T8_.setTop (mkF m 353 #[.val (.int i0), .val (.int i1), .val (.int i2), .val (.int i3), .val (.int md), .val (.int ps), .val (.int ch), .val (.ref b1), .val (.ref b2), .val (.ref b3), .val (.ref b4), .val (.ref b5), .unset, .unset, .unset] []))
            refine Runs.st (fun t' k' => XS.iconst X8_.here hx rfl (hb hby at_353) k') ?_
            refine Runs.st (fun t' k' => XS.goto X8_.here hx rfl (pc0 := 354) (pc' := 358) rfl (hb hby at_354) (by decide) (by decide) k') ?_
            refine Runs.st (fun t' k' => XS.istore X8_.here hx rfl (hb hby at_358) rfl (l' := #[.val (.int i0), .val (.int i1), .val (.int i2), .val (.int i3), .val (.int md), .val (.int ps), .val (.int ch), .val (.ref b1), .val (.ref b2), .val (.ref b3), .val (.ref b4), .val (.ref b5), .val (.int (1 : Int32)), .unset, .unset]) rfl k') ?_
            refine Runs.st (fun t' k' => XS.iload X8_.here hx rfl (hb hby at_360) rfl k') ?_
            refine Runs.st (fun t' k' => XS.ifNo X8_.here hx rfl (hb hby at_362) rfl ((if0 _ _).trans (feq (by decide)).1) k') ?_
            show Runs p.tables e below _ (T8_.setTop (mkF m 365 #[.val (.int i0), .val (.int i1), .val (.int i2), .val (.int i3), .val (.int md), .val (.int ps), .val (.int ch), .val (.ref b1), .val (.ref b2), .val (.ref b3), .val (.ref b4), .val (.ref b5), .val (.int (1 : Int32)), .unset, .unset] []))
            obtain ⟨T9_, X9_, e9_, st9_⟩ := getS2 X8_ hx hZ hown (host := "") (Or.inl (hw _ (List.mem_of_getElem? (i := 63) rfl))) Via.refl e8_ (S0.ext old.2) (g := (mkF m 365 #[.val (.int i0), .val (.int i1), .val (.int i2), .val (.int i3), .val (.int md), .val (.int ps), .val (.int ch), .val (.ref b1), .val (.ref b2), .val (.ref b3), .val (.ref b4), .val (.ref b5), .val (.int (1 : Int32)), .unset, .unset] [])) rfl (hb hby at_365)
            refine Runs.st (st9_) ?_
            show Runs p.tables e below _ (T9_.setTop (mkF m 368 #[.val (.int i0), .val (.int i1), .val (.int i2), .val (.int i3), .val (.int md), .val (.int ps), .val (.int ch), .val (.ref b1), .val (.ref b2), .val (.ref b3), .val (.ref b4), .val (.ref b5), .val (.int (1 : Int32)), .unset, .unset] [(.ref oe)]))
            refine Runs.st (fun t' k' => XS.goto X9_.here hx rfl (pc0 := 368) (pc' := 374) rfl (hb hby at_368) (by decide) (by decide) k') ?_
            refine Runs.st (fun t' k' => XS.astore X9_.here hx rfl (hb hby at_374) rfl rfl (l' := #[.val (.int i0), .val (.int i1), .val (.int i2), .val (.int i3), .val (.int md), .val (.int ps), .val (.int ch), .val (.ref b1), .val (.ref b2), .val (.ref b3), .val (.ref b4), .val (.ref b5), .val (.int (1 : Int32)), .val (.ref oe), .unset]) rfl k') ?_
            refine Runs.st (fun t' k' => XS.aload X9_.here hx rfl (hb hby at_376) rfl rfl k') ?_
            obtain ⟨_, _, ⟨T10_, L10_, k10_, n10_⟩, -, X10_, ⟨Lc10_, hQ10_, l10_, y10_, z10_⟩, st10_⟩ := Jvm.LawKit.callS X9_ hx (y := (⟨"com/example/standing_order/standingorder/api/InstanceForm", "ofEngine", "(Ljava/lang/String;)Lcom/example/standing_order/standingorder/api/InstanceForm;"⟩ : MethodName)) hown (mvT hZ (hw _ (List.mem_of_getElem? (i := 66) rfl))) (mvT hZ (hw _ (List.mem_of_getElem? (i := 67) rfl))) (mvT hZ (hw _ (List.mem_of_getElem? (i := 64) rfl))) (mvT hZ (hw _ (List.mem_of_getElem? (i := 68) rfl))) (by decide) (backOf (W := 0) (rmOA l Z a0 hw [] b5 oe om s0 zc b6 v0 kb6 kv0 (nar .byte (c0.toInt8.toInt32)) (nar .byte (c1.toInt8.toInt32)) (nar .byte (c2.toInt8.toInt32)) (nar .byte (c3.toInt8.toInt32)) (nar .byte (c4.toInt8.toInt32)) T2_.heap n0 sz (S0.ext old.2) (S1.ext old.2) (Fs0.ext old.2) (Ne.symm (old.ne Es0.lt g_b5)) (Sc.ext old.2) hzc E_b5 Fc_b5 Fv_b5 (Es0.ext old.2) (Fc0.ext old.2) (Fv0.ext old.2) V_b6 (V0.ext old.2) ((own_bl c0 _ r0 (by decide)).mpr d0) ((own_bl c1 _ r1 (by decide)).mpr d1) ((own_bl c2 _ r2 (by decide)).mpr d2) ((own_bl c3 _ r3 (by decide)).mpr d3) ((own_bl c4 _ r4 (by decide)).mpr d4)) hZ (hw _ (List.mem_of_getElem? (i := 68) rfl)) (hw _ (List.mem_of_getElem? (i := 64) rfl)) (by decide) (by decide)) (g := (mkF m 378 #[.val (.int i0), .val (.int i1), .val (.int i2), .val (.int i3), .val (.int md), .val (.int ps), .val (.int ch), .val (.ref b1), .val (.ref b2), .val (.ref b3), .val (.ref b4), .val (.ref b5), .val (.int (1 : Int32)), .val (.ref oe), .unset] [(.ref b5)])) rfl (by rw [hml]; rfl) (argsL := [(.ref b5)]) (rest := []) (lenOf pd__28Ljava_2flang_2fString_3b_29Lcom_2fexample_2fstanding_order_2fstandingorder_2fapi_2fInstanceForm_3b rfl) rfl (by show 2 * 0 + _ ≤ _; exact Nat.le_of_eq rfl) (hb hby at_378) (fun _ _ => ⟨rfl, e9_, (by decide : 6 + 0 ≤ _), (by decide : 24 + 0 ≤ _)⟩)
            dsimp only [Pt.U, Pt.locs, Pt.cells, Pt.slots] at X10_ l10_ y10_ z10_ st10_ hQ10_
            subst l10_ y10_ z10_
            obtain ⟨rfl, N10_q, e10_⟩ := hQ10_
            have N10_ := Fr.app N8_ N10_q
            refine Runs.st (st10_) ?_
            replace X10_ := wider X10_ (c' := 6) (s' := 24) (by decide) (by decide)
            show Runs p.tables e below _ (T10_.setTop (mkF m 381 #[.val (.int i0), .val (.int i1), .val (.int i2), .val (.int i3), .val (.int md), .val (.int ps), .val (.int ch), .val (.ref b1), .val (.ref b2), .val (.ref b3), .val (.ref b4), .val (.ref b5), .val (.int (1 : Int32)), .val (.ref oe), .unset] [(.ref oe)]))
            refine Runs.st (fun t' k' => XS.astore X10_.here hx rfl (hb hby at_381) rfl rfl (l' := #[.val (.int i0), .val (.int i1), .val (.int i2), .val (.int i3), .val (.int md), .val (.int ps), .val (.int ch), .val (.ref b1), .val (.ref b2), .val (.ref b3), .val (.ref b4), .val (.ref b5), .val (.int (1 : Int32)), .val (.ref oe), .val (.ref oe)]) rfl k') ?_
            refine Runs.st (fun t' k' => XS.aload X10_.here hx rfl (hb hby at_383) rfl rfl k') ?_
            refine Runs.st (fun t' k' => XS.aload X10_.here hx rfl (hb hby at_385) rfl rfl k') ?_
            refine Runs.st (fun t' k' => Jvm.RoadKit.acmp (g := (mkF m 387 #[.val (.int i0), .val (.int i1), .val (.int i2), .val (.int i3), .val (.int md), .val (.int ps), .val (.int ch), .val (.ref b1), .val (.ref b2), .val (.ref b3), .val (.ref b4), .val (.ref b5), .val (.int (1 : Int32)), .val (.ref oe), .val (.ref oe)] [(.ref oe), (.ref oe)])) X10_ hx rfl rfl rfl (pc0 := 387) (pc' := 390) (same := true) rfl (hb hby at_387) rfl (decide_eq_true rfl) (by decide) (by decide) k') ?_
            show Runs p.tables e below _ (T10_.setTop (mkF m 390 #[.val (.int i0), .val (.int i1), .val (.int i2), .val (.int i3), .val (.int md), .val (.int ps), .val (.int ch), .val (.ref b1), .val (.ref b2), .val (.ref b3), .val (.ref b4), .val (.ref b5), .val (.int (1 : Int32)), .val (.ref oe), .val (.ref oe)] []))
            refine Runs.st (fun t' k' => XS.aload X10_.here hx rfl (hb hby at_390) rfl rfl k') ?_
            obtain ⟨cq11_, kq11_, q11_a, q11_b, q11_c⟩ := isOf hZ e10_ (E0.ext old.2)
            obtain ⟨_, _, ⟨T11_, L11_, k11_, n11_⟩, -, X11_, ⟨Lc11_, hQ11_, l11_, y11_, z11_⟩, st11_⟩ := X10_.virtualBack hx (y := (⟨"com/example/standing_order/standingorder/api/InstanceForm", "engine", "()Ljava/lang/String;"⟩ : MethodName)) (z := (⟨"com/example/standing_order/standingorder/api/InstanceForm", "engine", "()Ljava/lang/String;"⟩ : MethodName)) hown (mvT hZ (hw _ (List.mem_of_getElem? (i := 81) rfl))) (mvT hZ (hw _ (List.mem_of_getElem? (i := 82) rfl))) (notFace_of_selects (args := #[]) (mvT hZ (hw _ (List.mem_of_getElem? (i := 84) rfl)))) (mvT hZ (hw _ (List.mem_of_getElem? (i := 84) rfl))) (mvT hZ (hw _ (List.mem_of_getElem? (i := 83) rfl))) (by decide) (backOf (W := 0) (rmEng l Z a0 hw [] oe s0 T2_.heap n0 sz (Fs0.ext old.2)) hZ (hw _ (List.mem_of_getElem? (i := 85) rfl)) (hw _ (List.mem_of_getElem? (i := 64) rfl)) (by decide) (by decide)) q11_a q11_c (g := (mkF m 392 #[.val (.int i0), .val (.int i1), .val (.int i2), .val (.int i3), .val (.int md), .val (.int ps), .val (.int ch), .val (.ref b1), .val (.ref b2), .val (.ref b3), .val (.ref b4), .val (.ref b5), .val (.int (1 : Int32)), .val (.ref oe), .val (.ref oe)] [(.ref oe)])) rfl (by rw [hml]; rfl) (Steps.refl _) (argsL := []) (rest := []) (lenOf pd__28_29Ljava_2flang_2fString_3b rfl) rfl (by show 2 * 0 + _ ≤ _; exact Nat.le_of_eq rfl) (hb hby at_392) (fun _ _ => ⟨rfl, e10_, (by decide : 6 + 0 ≤ _), (by decide : 24 + 0 ≤ _)⟩)
            dsimp only [Pt.U, Pt.locs, Pt.cells, Pt.slots] at X11_ l11_ y11_ z11_ st11_ hQ11_
            subst l11_ y11_ z11_
            obtain ⟨rfl, N11_q, e11_⟩ := hQ11_
            have N11_ := Fr.app N10_ N11_q
            refine Runs.tr st11_ ?_
            replace X11_ := wider X11_ (c' := 6) (s' := 24) (by decide) (by decide)
            show Runs p.tables e below _ (T11_.setTop (mkF m 395 #[.val (.int i0), .val (.int i1), .val (.int i2), .val (.int i3), .val (.int md), .val (.int ps), .val (.int ch), .val (.ref b1), .val (.ref b2), .val (.ref b3), .val (.ref b4), .val (.ref b5), .val (.int (1 : Int32)), .val (.ref oe), .val (.ref oe)] [(.ref s0)]))
            obtain ⟨_, _, ⟨T12_, L12_, k12_, n12_⟩, -, X12_, ⟨Lc12_, hQ12_, l12_, y12_, z12_⟩, st12_⟩ := Jvm.LawKit.callS X11_ hx (y := (⟨"com/example/standing_order/standingorder/api/InstanceForm", "ofEngine", "(Ljava/lang/String;)Lcom/example/standing_order/standingorder/api/InstanceForm;"⟩ : MethodName)) hown (mvT hZ (hw _ (List.mem_of_getElem? (i := 66) rfl))) (mvT hZ (hw _ (List.mem_of_getElem? (i := 67) rfl))) (mvT hZ (hw _ (List.mem_of_getElem? (i := 64) rfl))) (mvT hZ (hw _ (List.mem_of_getElem? (i := 68) rfl))) (by decide) (backOf (W := 0) (rmOS l Z a0 hw [] s0 oe om T2_.heap n0 sz (S0.ext old.2) (S1.ext old.2) (Fs0.ext old.2) (Es0.ext old.2)) hZ (hw _ (List.mem_of_getElem? (i := 68) rfl)) (hw _ (List.mem_of_getElem? (i := 64) rfl)) (by decide) (by decide)) (g := (mkF m 395 #[.val (.int i0), .val (.int i1), .val (.int i2), .val (.int i3), .val (.int md), .val (.int ps), .val (.int ch), .val (.ref b1), .val (.ref b2), .val (.ref b3), .val (.ref b4), .val (.ref b5), .val (.int (1 : Int32)), .val (.ref oe), .val (.ref oe)] [(.ref s0)])) rfl (by rw [hml]; rfl) (argsL := [(.ref s0)]) (rest := []) (lenOf pd__28Ljava_2flang_2fString_3b_29Lcom_2fexample_2fstanding_order_2fstandingorder_2fapi_2fInstanceForm_3b rfl) rfl (by show 2 * 0 + _ ≤ _; exact Nat.le_of_eq rfl) (hb hby at_395) (fun _ _ => ⟨rfl, e11_, (by decide : 6 + 0 ≤ _), (by decide : 24 + 0 ≤ _)⟩)
            dsimp only [Pt.U, Pt.locs, Pt.cells, Pt.slots] at X12_ l12_ y12_ z12_ st12_ hQ12_
            subst l12_ y12_ z12_
            obtain ⟨rfl, N12_q, e12_⟩ := hQ12_
            have N12_ := Fr.app N11_ N12_q
            refine Runs.st (st12_) ?_
            replace X12_ := wider X12_ (c' := 6) (s' := 24) (by decide) (by decide)
            show Runs p.tables e below _ (T12_.setTop (mkF m 398 #[.val (.int i0), .val (.int i1), .val (.int i2), .val (.int i3), .val (.int md), .val (.int ps), .val (.int ch), .val (.ref b1), .val (.ref b2), .val (.ref b3), .val (.ref b4), .val (.ref b5), .val (.int (1 : Int32)), .val (.ref oe), .val (.ref oe)] [(.ref oe)]))
            refine Runs.st (fun t' k' => XS.aload X12_.here hx rfl (hb hby at_398) rfl rfl k') ?_
            refine Runs.st (fun t' k' => Jvm.RoadKit.acmp (g := (mkF m 400 #[.val (.int i0), .val (.int i1), .val (.int i2), .val (.int i3), .val (.int md), .val (.int ps), .val (.int ch), .val (.ref b1), .val (.ref b2), .val (.ref b3), .val (.ref b4), .val (.ref b5), .val (.int (1 : Int32)), .val (.ref oe), .val (.ref oe)] [(.ref oe), (.ref oe)])) X12_ hx rfl rfl rfl (pc0 := 400) (pc' := 403) (same := true) rfl (hb hby at_400) rfl (decide_eq_true rfl) (by decide) (by decide) k') ?_
            show Runs p.tables e below _ (T12_.setTop (mkF m 403 #[.val (.int i0), .val (.int i1), .val (.int i2), .val (.int i3), .val (.int md), .val (.int ps), .val (.int ch), .val (.ref b1), .val (.ref b2), .val (.ref b3), .val (.ref b4), .val (.ref b5), .val (.int (1 : Int32)), .val (.ref oe), .val (.ref oe)] []))
            refine Runs.st (fun t' k' => XS.iconst X12_.here hx rfl (hb hby at_403) k') ?_
            refine Runs.st (fun t' k' => XS.goto X12_.here hx rfl (pc0 := 404) (pc' := 408) rfl (hb hby at_404) (by decide) (by decide) k') ?_
            refine Runs.retW (s := s) (vm₁ := vm0) X12_ hS (by rw [e12_]; exact hk) hlk (v := (some (.int (1 : Int32)))) (fun h => by rw [hret] at h; cases h) (by decide) (by decide) ?_ (fun fs hr => retN X12_ hx (t := .boolean) hret (by simp) (hb hby at_408) hr)
            try rw [e12_]
            exact ⟨rfl, N12_⟩
          · skip
            refine Runs.st (fun t' k' => XS.icmpYes X8_.here hx rfl (pc0 := 350) (pc' := 357) rfl (hb hby at_350) rfl (feq d4).2 (by decide) (by decide) k') ?_
            show Runs p.tables e below _ (T8_.setTop (mkF m 357 #[.val (.int i0), .val (.int i1), .val (.int i2), .val (.int i3), .val (.int md), .val (.int ps), .val (.int ch), .val (.ref b1), .val (.ref b2), .val (.ref b3), .val (.ref b4), .val (.ref b5), .unset, .unset, .unset] []))
            refine Runs.st (fun t' k' => XS.iconst X8_.here hx rfl (hb hby at_357) k') ?_
            refine Runs.st (fun t' k' => XS.istore X8_.here hx rfl (hb hby at_358) rfl (l' := #[.val (.int i0), .val (.int i1), .val (.int i2), .val (.int i3), .val (.int md), .val (.int ps), .val (.int ch), .val (.ref b1), .val (.ref b2), .val (.ref b3), .val (.ref b4), .val (.ref b5), .val (.int (0 : Int32)), .unset, .unset]) rfl k') ?_
            refine Runs.st (fun t' k' => XS.iload X8_.here hx rfl (hb hby at_360) rfl k') ?_
            refine Runs.st (fun t' k' => XS.ifYes X8_.here hx rfl (pc0 := 362) (pc' := 371) rfl (hb hby at_362) rfl ((if0 _ _).trans (teq rfl).1) (by decide) (by decide) k') ?_
            show Runs p.tables e below _ (T8_.setTop (mkF m 371 #[.val (.int i0), .val (.int i1), .val (.int i2), .val (.int i3), .val (.int md), .val (.int ps), .val (.int ch), .val (.ref b1), .val (.ref b2), .val (.ref b3), .val (.ref b4), .val (.ref b5), .val (.int (0 : Int32)), .unset, .unset] []))
            obtain ⟨T13_, X13_, e13_, st13_⟩ := getS2 X8_ hx hZ hown (host := "") (Or.inl (hw _ (List.mem_of_getElem? (i := 86) rfl))) Via.refl e8_ (S1.ext old.2) (g := (mkF m 371 #[.val (.int i0), .val (.int i1), .val (.int i2), .val (.int i3), .val (.int md), .val (.int ps), .val (.int ch), .val (.ref b1), .val (.ref b2), .val (.ref b3), .val (.ref b4), .val (.ref b5), .val (.int (0 : Int32)), .unset, .unset] [])) rfl (hb hby at_371)
            refine Runs.st (st13_) ?_
            show Runs p.tables e below _ (T13_.setTop (mkF m 374 #[.val (.int i0), .val (.int i1), .val (.int i2), .val (.int i3), .val (.int md), .val (.int ps), .val (.int ch), .val (.ref b1), .val (.ref b2), .val (.ref b3), .val (.ref b4), .val (.ref b5), .val (.int (0 : Int32)), .unset, .unset] [(.ref om)]))
            refine Runs.st (fun t' k' => XS.astore X13_.here hx rfl (hb hby at_374) rfl rfl (l' := #[.val (.int i0), .val (.int i1), .val (.int i2), .val (.int i3), .val (.int md), .val (.int ps), .val (.int ch), .val (.ref b1), .val (.ref b2), .val (.ref b3), .val (.ref b4), .val (.ref b5), .val (.int (0 : Int32)), .val (.ref om), .unset]) rfl k') ?_
            refine Runs.st (fun t' k' => XS.aload X13_.here hx rfl (hb hby at_376) rfl rfl k') ?_
            obtain ⟨_, _, ⟨T14_, L14_, k14_, n14_⟩, -, X14_, ⟨Lc14_, hQ14_, l14_, y14_, z14_⟩, st14_⟩ := Jvm.LawKit.callS X13_ hx (y := (⟨"com/example/standing_order/standingorder/api/InstanceForm", "ofEngine", "(Ljava/lang/String;)Lcom/example/standing_order/standingorder/api/InstanceForm;"⟩ : MethodName)) hown (mvT hZ (hw _ (List.mem_of_getElem? (i := 66) rfl))) (mvT hZ (hw _ (List.mem_of_getElem? (i := 67) rfl))) (mvT hZ (hw _ (List.mem_of_getElem? (i := 64) rfl))) (mvT hZ (hw _ (List.mem_of_getElem? (i := 68) rfl))) (by decide) (backOf (W := 0) (rmO4 l Z a0 hw [] b5 oe om s0 zc b6 v0 kb6 kv0 (nar .byte (c0.toInt8.toInt32)) (nar .byte (c1.toInt8.toInt32)) (nar .byte (c2.toInt8.toInt32)) (nar .byte (c3.toInt8.toInt32)) (nar .byte (c4.toInt8.toInt32)) T2_.heap n0 sz (S0.ext old.2) (S1.ext old.2) (Fs0.ext old.2) (Ne.symm (old.ne Es0.lt g_b5)) (Sc.ext old.2) hzc E_b5 Fc_b5 Fv_b5 (Es0.ext old.2) (Fc0.ext old.2) (Fv0.ext old.2) V_b6 (V0.ext old.2) ((own_bl c0 _ r0 (by decide)).mpr d0) ((own_bl c1 _ r1 (by decide)).mpr d1) ((own_bl c2 _ r2 (by decide)).mpr d2) ((own_bl c3 _ r3 (by decide)).mpr d3) (fun q => d4 ((own_bl c4 _ r4 (by decide)).mp q))) hZ (hw _ (List.mem_of_getElem? (i := 68) rfl)) (hw _ (List.mem_of_getElem? (i := 64) rfl)) (by decide) (by decide)) (g := (mkF m 378 #[.val (.int i0), .val (.int i1), .val (.int i2), .val (.int i3), .val (.int md), .val (.int ps), .val (.int ch), .val (.ref b1), .val (.ref b2), .val (.ref b3), .val (.ref b4), .val (.ref b5), .val (.int (0 : Int32)), .val (.ref om), .unset] [(.ref b5)])) rfl (by rw [hml]; rfl) (argsL := [(.ref b5)]) (rest := []) (lenOf pd__28Ljava_2flang_2fString_3b_29Lcom_2fexample_2fstanding_order_2fstandingorder_2fapi_2fInstanceForm_3b rfl) rfl (by show 2 * 0 + _ ≤ _; exact Nat.le_of_eq rfl) (hb hby at_378) (fun _ _ => ⟨rfl, e13_, (by decide : 6 + 0 ≤ _), (by decide : 24 + 0 ≤ _)⟩)
            dsimp only [Pt.U, Pt.locs, Pt.cells, Pt.slots] at X14_ l14_ y14_ z14_ st14_ hQ14_
            subst l14_ y14_ z14_
            obtain ⟨rfl, N14_q, e14_⟩ := hQ14_
            have N14_ := Fr.app N8_ N14_q
            refine Runs.st (st14_) ?_
            replace X14_ := wider X14_ (c' := 6) (s' := 24) (by decide) (by decide)
            show Runs p.tables e below _ (T14_.setTop (mkF m 381 #[.val (.int i0), .val (.int i1), .val (.int i2), .val (.int i3), .val (.int md), .val (.int ps), .val (.int ch), .val (.ref b1), .val (.ref b2), .val (.ref b3), .val (.ref b4), .val (.ref b5), .val (.int (0 : Int32)), .val (.ref om), .unset] [(.ref om)]))
            refine Runs.st (fun t' k' => XS.astore X14_.here hx rfl (hb hby at_381) rfl rfl (l' := #[.val (.int i0), .val (.int i1), .val (.int i2), .val (.int i3), .val (.int md), .val (.int ps), .val (.int ch), .val (.ref b1), .val (.ref b2), .val (.ref b3), .val (.ref b4), .val (.ref b5), .val (.int (0 : Int32)), .val (.ref om), .val (.ref om)]) rfl k') ?_
            refine Runs.st (fun t' k' => XS.aload X14_.here hx rfl (hb hby at_383) rfl rfl k') ?_
            refine Runs.st (fun t' k' => XS.aload X14_.here hx rfl (hb hby at_385) rfl rfl k') ?_
            refine Runs.st (fun t' k' => Jvm.RoadKit.acmp (g := (mkF m 387 #[.val (.int i0), .val (.int i1), .val (.int i2), .val (.int i3), .val (.int md), .val (.int ps), .val (.int ch), .val (.ref b1), .val (.ref b2), .val (.ref b3), .val (.ref b4), .val (.ref b5), .val (.int (0 : Int32)), .val (.ref om), .val (.ref om)] [(.ref om), (.ref om)])) X14_ hx rfl rfl rfl (pc0 := 387) (pc' := 390) (same := true) rfl (hb hby at_387) rfl (decide_eq_true rfl) (by decide) (by decide) k') ?_
            show Runs p.tables e below _ (T14_.setTop (mkF m 390 #[.val (.int i0), .val (.int i1), .val (.int i2), .val (.int i3), .val (.int md), .val (.int ps), .val (.int ch), .val (.ref b1), .val (.ref b2), .val (.ref b3), .val (.ref b4), .val (.ref b5), .val (.int (0 : Int32)), .val (.ref om), .val (.ref om)] []))
            refine Runs.st (fun t' k' => XS.aload X14_.here hx rfl (hb hby at_390) rfl rfl k') ?_
            obtain ⟨cq15_, kq15_, q15_a, q15_b, q15_c⟩ := isOf hZ e14_ (E1.ext old.2)
            obtain ⟨_, _, ⟨T15_, L15_, k15_, n15_⟩, -, X15_, ⟨Lc15_, hQ15_, l15_, y15_, z15_⟩, st15_⟩ := X14_.virtualBack hx (y := (⟨"com/example/standing_order/standingorder/api/InstanceForm", "engine", "()Ljava/lang/String;"⟩ : MethodName)) (z := (⟨"com/example/standing_order/standingorder/api/InstanceForm", "engine", "()Ljava/lang/String;"⟩ : MethodName)) hown (mvT hZ (hw _ (List.mem_of_getElem? (i := 81) rfl))) (mvT hZ (hw _ (List.mem_of_getElem? (i := 82) rfl))) (notFace_of_selects (args := #[]) (mvT hZ (hw _ (List.mem_of_getElem? (i := 84) rfl)))) (mvT hZ (hw _ (List.mem_of_getElem? (i := 84) rfl))) (mvT hZ (hw _ (List.mem_of_getElem? (i := 83) rfl))) (by decide) (backOf (W := 0) (rmEng l Z a0 hw [] om s1 T2_.heap n0 sz (Fs1.ext old.2)) hZ (hw _ (List.mem_of_getElem? (i := 85) rfl)) (hw _ (List.mem_of_getElem? (i := 64) rfl)) (by decide) (by decide)) q15_a q15_c (g := (mkF m 392 #[.val (.int i0), .val (.int i1), .val (.int i2), .val (.int i3), .val (.int md), .val (.int ps), .val (.int ch), .val (.ref b1), .val (.ref b2), .val (.ref b3), .val (.ref b4), .val (.ref b5), .val (.int (0 : Int32)), .val (.ref om), .val (.ref om)] [(.ref om)])) rfl (by rw [hml]; rfl) (Steps.refl _) (argsL := []) (rest := []) (lenOf pd__28_29Ljava_2flang_2fString_3b rfl) rfl (by show 2 * 0 + _ ≤ _; exact Nat.le_of_eq rfl) (hb hby at_392) (fun _ _ => ⟨rfl, e14_, (by decide : 6 + 0 ≤ _), (by decide : 24 + 0 ≤ _)⟩)
            dsimp only [Pt.U, Pt.locs, Pt.cells, Pt.slots] at X15_ l15_ y15_ z15_ st15_ hQ15_
            subst l15_ y15_ z15_
            obtain ⟨rfl, N15_q, e15_⟩ := hQ15_
            have N15_ := Fr.app N14_ N15_q
            refine Runs.tr st15_ ?_
            replace X15_ := wider X15_ (c' := 6) (s' := 24) (by decide) (by decide)
            show Runs p.tables e below _ (T15_.setTop (mkF m 395 #[.val (.int i0), .val (.int i1), .val (.int i2), .val (.int i3), .val (.int md), .val (.int ps), .val (.int ch), .val (.ref b1), .val (.ref b2), .val (.ref b3), .val (.ref b4), .val (.ref b5), .val (.int (0 : Int32)), .val (.ref om), .val (.ref om)] [(.ref s1)]))
            obtain ⟨_, _, ⟨T16_, L16_, k16_, n16_⟩, -, X16_, ⟨Lc16_, hQ16_, l16_, y16_, z16_⟩, st16_⟩ := Jvm.LawKit.callS X15_ hx (y := (⟨"com/example/standing_order/standingorder/api/InstanceForm", "ofEngine", "(Ljava/lang/String;)Lcom/example/standing_order/standingorder/api/InstanceForm;"⟩ : MethodName)) hown (mvT hZ (hw _ (List.mem_of_getElem? (i := 66) rfl))) (mvT hZ (hw _ (List.mem_of_getElem? (i := 67) rfl))) (mvT hZ (hw _ (List.mem_of_getElem? (i := 64) rfl))) (mvT hZ (hw _ (List.mem_of_getElem? (i := 68) rfl))) (by decide) (backOf (W := 0) (rmON l Z a0 hw [] s1 oe om s0 zc v1 v0 kv1 kv0 (7 : Int32) _ T2_.heap n0 sz (S0.ext old.2) (S1.ext old.2) (Fs0.ext old.2) hs10 (Sc.ext old.2) hzc (Es1.ext old.2) (Fc1.ext old.2) (Fv1.ext old.2) (Es0.ext old.2) (Fc0.ext old.2) (Fv0.ext old.2) (V1.ext old.2) (V0.ext old.2) (by decide)) hZ (hw _ (List.mem_of_getElem? (i := 68) rfl)) (hw _ (List.mem_of_getElem? (i := 64) rfl)) (by decide) (by decide)) (g := (mkF m 395 #[.val (.int i0), .val (.int i1), .val (.int i2), .val (.int i3), .val (.int md), .val (.int ps), .val (.int ch), .val (.ref b1), .val (.ref b2), .val (.ref b3), .val (.ref b4), .val (.ref b5), .val (.int (0 : Int32)), .val (.ref om), .val (.ref om)] [(.ref s1)])) rfl (by rw [hml]; rfl) (argsL := [(.ref s1)]) (rest := []) (lenOf pd__28Ljava_2flang_2fString_3b_29Lcom_2fexample_2fstanding_order_2fstandingorder_2fapi_2fInstanceForm_3b rfl) rfl (by show 2 * 0 + _ ≤ _; exact Nat.le_of_eq rfl) (hb hby at_395) (fun _ _ => ⟨rfl, e15_, (by decide : 6 + 0 ≤ _), (by decide : 24 + 0 ≤ _)⟩)
            dsimp only [Pt.U, Pt.locs, Pt.cells, Pt.slots] at X16_ l16_ y16_ z16_ st16_ hQ16_
            subst l16_ y16_ z16_
            obtain ⟨rfl, N16_q, e16_⟩ := hQ16_
            have N16_ := Fr.app N15_ N16_q
            refine Runs.st (st16_) ?_
            replace X16_ := wider X16_ (c' := 6) (s' := 24) (by decide) (by decide)
            show Runs p.tables e below _ (T16_.setTop (mkF m 398 #[.val (.int i0), .val (.int i1), .val (.int i2), .val (.int i3), .val (.int md), .val (.int ps), .val (.int ch), .val (.ref b1), .val (.ref b2), .val (.ref b3), .val (.ref b4), .val (.ref b5), .val (.int (0 : Int32)), .val (.ref om), .val (.ref om)] [(.ref om)]))
            refine Runs.st (fun t' k' => XS.aload X16_.here hx rfl (hb hby at_398) rfl rfl k') ?_
            refine Runs.st (fun t' k' => Jvm.RoadKit.acmp (g := (mkF m 400 #[.val (.int i0), .val (.int i1), .val (.int i2), .val (.int i3), .val (.int md), .val (.int ps), .val (.int ch), .val (.ref b1), .val (.ref b2), .val (.ref b3), .val (.ref b4), .val (.ref b5), .val (.int (0 : Int32)), .val (.ref om), .val (.ref om)] [(.ref om), (.ref om)])) X16_ hx rfl rfl rfl (pc0 := 400) (pc' := 403) (same := true) rfl (hb hby at_400) rfl (decide_eq_true rfl) (by decide) (by decide) k') ?_
            show Runs p.tables e below _ (T16_.setTop (mkF m 403 #[.val (.int i0), .val (.int i1), .val (.int i2), .val (.int i3), .val (.int md), .val (.int ps), .val (.int ch), .val (.ref b1), .val (.ref b2), .val (.ref b3), .val (.ref b4), .val (.ref b5), .val (.int (0 : Int32)), .val (.ref om), .val (.ref om)] []))
            refine Runs.st (fun t' k' => XS.iconst X16_.here hx rfl (hb hby at_403) k') ?_
            refine Runs.st (fun t' k' => XS.goto X16_.here hx rfl (pc0 := 404) (pc' := 408) rfl (hb hby at_404) (by decide) (by decide) k') ?_
            refine Runs.retW (s := s) (vm₁ := vm0) X16_ hS (by rw [e16_]; exact hk) hlk (v := (some (.int (1 : Int32)))) (fun h => by rw [hret] at h; cases h) (by decide) (by decide) ?_ (fun fs hr => retN X16_ hx (t := .boolean) hret (by simp) (hb hby at_408) hr)
            try rw [e16_]
            exact ⟨rfl, N16_⟩
        · skip
          refine Runs.st (fun t' k' => XS.icmpYes X7_.here hx rfl (pc0 := 339) (pc' := 357) rfl (hb hby at_339) rfl (feq d3).2 (by decide) (by decide) k') ?_
          show Runs p.tables e below _ (T7_.setTop (mkF m 357 #[.val (.int i0), .val (.int i1), .val (.int i2), .val (.int i3), .val (.int md), .val (.int ps), .val (.int ch), .val (.ref b1), .val (.ref b2), .val (.ref b3), .val (.ref b4), .val (.ref b5), .unset, .unset, .unset] []))
          refine Runs.st (fun t' k' => XS.iconst X7_.here hx rfl (hb hby at_357) k') ?_
          refine Runs.st (fun t' k' => XS.istore X7_.here hx rfl (hb hby at_358) rfl (l' := #[.val (.int i0), .val (.int i1), .val (.int i2), .val (.int i3), .val (.int md), .val (.int ps), .val (.int ch), .val (.ref b1), .val (.ref b2), .val (.ref b3), .val (.ref b4), .val (.ref b5), .val (.int (0 : Int32)), .unset, .unset]) rfl k') ?_
          refine Runs.st (fun t' k' => XS.iload X7_.here hx rfl (hb hby at_360) rfl k') ?_
          refine Runs.st (fun t' k' => XS.ifYes X7_.here hx rfl (pc0 := 362) (pc' := 371) rfl (hb hby at_362) rfl ((if0 _ _).trans (teq rfl).1) (by decide) (by decide) k') ?_
          show Runs p.tables e below _ (T7_.setTop (mkF m 371 #[.val (.int i0), .val (.int i1), .val (.int i2), .val (.int i3), .val (.int md), .val (.int ps), .val (.int ch), .val (.ref b1), .val (.ref b2), .val (.ref b3), .val (.ref b4), .val (.ref b5), .val (.int (0 : Int32)), .unset, .unset] []))
          obtain ⟨T17_, X17_, e17_, st17_⟩ := getS2 X7_ hx hZ hown (host := "") (Or.inl (hw _ (List.mem_of_getElem? (i := 86) rfl))) Via.refl e7_ (S1.ext old.2) (g := (mkF m 371 #[.val (.int i0), .val (.int i1), .val (.int i2), .val (.int i3), .val (.int md), .val (.int ps), .val (.int ch), .val (.ref b1), .val (.ref b2), .val (.ref b3), .val (.ref b4), .val (.ref b5), .val (.int (0 : Int32)), .unset, .unset] [])) rfl (hb hby at_371)
          refine Runs.st (st17_) ?_
          show Runs p.tables e below _ (T17_.setTop (mkF m 374 #[.val (.int i0), .val (.int i1), .val (.int i2), .val (.int i3), .val (.int md), .val (.int ps), .val (.int ch), .val (.ref b1), .val (.ref b2), .val (.ref b3), .val (.ref b4), .val (.ref b5), .val (.int (0 : Int32)), .unset, .unset] [(.ref om)]))
          refine Runs.st (fun t' k' => XS.astore X17_.here hx rfl (hb hby at_374) rfl rfl (l' := #[.val (.int i0), .val (.int i1), .val (.int i2), .val (.int i3), .val (.int md), .val (.int ps), .val (.int ch), .val (.ref b1), .val (.ref b2), .val (.ref b3), .val (.ref b4), .val (.ref b5), .val (.int (0 : Int32)), .val (.ref om), .unset]) rfl k') ?_
          refine Runs.st (fun t' k' => XS.aload X17_.here hx rfl (hb hby at_376) rfl rfl k') ?_
          obtain ⟨_, _, ⟨T18_, L18_, k18_, n18_⟩, -, X18_, ⟨Lc18_, hQ18_, l18_, y18_, z18_⟩, st18_⟩ := Jvm.LawKit.callS X17_ hx (y := (⟨"com/example/standing_order/standingorder/api/InstanceForm", "ofEngine", "(Ljava/lang/String;)Lcom/example/standing_order/standingorder/api/InstanceForm;"⟩ : MethodName)) hown (mvT hZ (hw _ (List.mem_of_getElem? (i := 66) rfl))) (mvT hZ (hw _ (List.mem_of_getElem? (i := 67) rfl))) (mvT hZ (hw _ (List.mem_of_getElem? (i := 64) rfl))) (mvT hZ (hw _ (List.mem_of_getElem? (i := 68) rfl))) (by decide) (backOf (W := 0) (rmO3 l Z a0 hw [] b5 oe om s0 zc b6 v0 kb6 kv0 (nar .byte (c0.toInt8.toInt32)) (nar .byte (c1.toInt8.toInt32)) (nar .byte (c2.toInt8.toInt32)) (nar .byte (c3.toInt8.toInt32)) (nar .byte (c4.toInt8.toInt32)) T2_.heap n0 sz (S0.ext old.2) (S1.ext old.2) (Fs0.ext old.2) (Ne.symm (old.ne Es0.lt g_b5)) (Sc.ext old.2) hzc E_b5 Fc_b5 Fv_b5 (Es0.ext old.2) (Fc0.ext old.2) (Fv0.ext old.2) V_b6 (V0.ext old.2) ((own_bl c0 _ r0 (by decide)).mpr d0) ((own_bl c1 _ r1 (by decide)).mpr d1) ((own_bl c2 _ r2 (by decide)).mpr d2) (fun q => d3 ((own_bl c3 _ r3 (by decide)).mp q))) hZ (hw _ (List.mem_of_getElem? (i := 68) rfl)) (hw _ (List.mem_of_getElem? (i := 64) rfl)) (by decide) (by decide)) (g := (mkF m 378 #[.val (.int i0), .val (.int i1), .val (.int i2), .val (.int i3), .val (.int md), .val (.int ps), .val (.int ch), .val (.ref b1), .val (.ref b2), .val (.ref b3), .val (.ref b4), .val (.ref b5), .val (.int (0 : Int32)), .val (.ref om), .unset] [(.ref b5)])) rfl (by rw [hml]; rfl) (argsL := [(.ref b5)]) (rest := []) (lenOf pd__28Ljava_2flang_2fString_3b_29Lcom_2fexample_2fstanding_order_2fstandingorder_2fapi_2fInstanceForm_3b rfl) rfl (by show 2 * 0 + _ ≤ _; exact Nat.le_of_eq rfl) (hb hby at_378) (fun _ _ => ⟨rfl, e17_, (by decide : 6 + 0 ≤ _), (by decide : 24 + 0 ≤ _)⟩)
          dsimp only [Pt.U, Pt.locs, Pt.cells, Pt.slots] at X18_ l18_ y18_ z18_ st18_ hQ18_
          subst l18_ y18_ z18_
          obtain ⟨rfl, N18_q, e18_⟩ := hQ18_
          have N18_ := Fr.app N7_ N18_q
          refine Runs.st (st18_) ?_
          replace X18_ := wider X18_ (c' := 6) (s' := 24) (by decide) (by decide)
          show Runs p.tables e below _ (T18_.setTop (mkF m 381 #[.val (.int i0), .val (.int i1), .val (.int i2), .val (.int i3), .val (.int md), .val (.int ps), .val (.int ch), .val (.ref b1), .val (.ref b2), .val (.ref b3), .val (.ref b4), .val (.ref b5), .val (.int (0 : Int32)), .val (.ref om), .unset] [(.ref om)]))
          refine Runs.st (fun t' k' => XS.astore X18_.here hx rfl (hb hby at_381) rfl rfl (l' := #[.val (.int i0), .val (.int i1), .val (.int i2), .val (.int i3), .val (.int md), .val (.int ps), .val (.int ch), .val (.ref b1), .val (.ref b2), .val (.ref b3), .val (.ref b4), .val (.ref b5), .val (.int (0 : Int32)), .val (.ref om), .val (.ref om)]) rfl k') ?_
          refine Runs.st (fun t' k' => XS.aload X18_.here hx rfl (hb hby at_383) rfl rfl k') ?_
          refine Runs.st (fun t' k' => XS.aload X18_.here hx rfl (hb hby at_385) rfl rfl k') ?_
          refine Runs.st (fun t' k' => Jvm.RoadKit.acmp (g := (mkF m 387 #[.val (.int i0), .val (.int i1), .val (.int i2), .val (.int i3), .val (.int md), .val (.int ps), .val (.int ch), .val (.ref b1), .val (.ref b2), .val (.ref b3), .val (.ref b4), .val (.ref b5), .val (.int (0 : Int32)), .val (.ref om), .val (.ref om)] [(.ref om), (.ref om)])) X18_ hx rfl rfl rfl (pc0 := 387) (pc' := 390) (same := true) rfl (hb hby at_387) rfl (decide_eq_true rfl) (by decide) (by decide) k') ?_
          show Runs p.tables e below _ (T18_.setTop (mkF m 390 #[.val (.int i0), .val (.int i1), .val (.int i2), .val (.int i3), .val (.int md), .val (.int ps), .val (.int ch), .val (.ref b1), .val (.ref b2), .val (.ref b3), .val (.ref b4), .val (.ref b5), .val (.int (0 : Int32)), .val (.ref om), .val (.ref om)] []))
          refine Runs.st (fun t' k' => XS.aload X18_.here hx rfl (hb hby at_390) rfl rfl k') ?_
          obtain ⟨cq19_, kq19_, q19_a, q19_b, q19_c⟩ := isOf hZ e18_ (E1.ext old.2)
          obtain ⟨_, _, ⟨T19_, L19_, k19_, n19_⟩, -, X19_, ⟨Lc19_, hQ19_, l19_, y19_, z19_⟩, st19_⟩ := X18_.virtualBack hx (y := (⟨"com/example/standing_order/standingorder/api/InstanceForm", "engine", "()Ljava/lang/String;"⟩ : MethodName)) (z := (⟨"com/example/standing_order/standingorder/api/InstanceForm", "engine", "()Ljava/lang/String;"⟩ : MethodName)) hown (mvT hZ (hw _ (List.mem_of_getElem? (i := 81) rfl))) (mvT hZ (hw _ (List.mem_of_getElem? (i := 82) rfl))) (notFace_of_selects (args := #[]) (mvT hZ (hw _ (List.mem_of_getElem? (i := 84) rfl)))) (mvT hZ (hw _ (List.mem_of_getElem? (i := 84) rfl))) (mvT hZ (hw _ (List.mem_of_getElem? (i := 83) rfl))) (by decide) (backOf (W := 0) (rmEng l Z a0 hw [] om s1 T2_.heap n0 sz (Fs1.ext old.2)) hZ (hw _ (List.mem_of_getElem? (i := 85) rfl)) (hw _ (List.mem_of_getElem? (i := 64) rfl)) (by decide) (by decide)) q19_a q19_c (g := (mkF m 392 #[.val (.int i0), .val (.int i1), .val (.int i2), .val (.int i3), .val (.int md), .val (.int ps), .val (.int ch), .val (.ref b1), .val (.ref b2), .val (.ref b3), .val (.ref b4), .val (.ref b5), .val (.int (0 : Int32)), .val (.ref om), .val (.ref om)] [(.ref om)])) rfl (by rw [hml]; rfl) (Steps.refl _) (argsL := []) (rest := []) (lenOf pd__28_29Ljava_2flang_2fString_3b rfl) rfl (by show 2 * 0 + _ ≤ _; exact Nat.le_of_eq rfl) (hb hby at_392) (fun _ _ => ⟨rfl, e18_, (by decide : 6 + 0 ≤ _), (by decide : 24 + 0 ≤ _)⟩)
          dsimp only [Pt.U, Pt.locs, Pt.cells, Pt.slots] at X19_ l19_ y19_ z19_ st19_ hQ19_
          subst l19_ y19_ z19_
          obtain ⟨rfl, N19_q, e19_⟩ := hQ19_
          have N19_ := Fr.app N18_ N19_q
          refine Runs.tr st19_ ?_
          replace X19_ := wider X19_ (c' := 6) (s' := 24) (by decide) (by decide)
          show Runs p.tables e below _ (T19_.setTop (mkF m 395 #[.val (.int i0), .val (.int i1), .val (.int i2), .val (.int i3), .val (.int md), .val (.int ps), .val (.int ch), .val (.ref b1), .val (.ref b2), .val (.ref b3), .val (.ref b4), .val (.ref b5), .val (.int (0 : Int32)), .val (.ref om), .val (.ref om)] [(.ref s1)]))
          obtain ⟨_, _, ⟨T20_, L20_, k20_, n20_⟩, -, X20_, ⟨Lc20_, hQ20_, l20_, y20_, z20_⟩, st20_⟩ := Jvm.LawKit.callS X19_ hx (y := (⟨"com/example/standing_order/standingorder/api/InstanceForm", "ofEngine", "(Ljava/lang/String;)Lcom/example/standing_order/standingorder/api/InstanceForm;"⟩ : MethodName)) hown (mvT hZ (hw _ (List.mem_of_getElem? (i := 66) rfl))) (mvT hZ (hw _ (List.mem_of_getElem? (i := 67) rfl))) (mvT hZ (hw _ (List.mem_of_getElem? (i := 64) rfl))) (mvT hZ (hw _ (List.mem_of_getElem? (i := 68) rfl))) (by decide) (backOf (W := 0) (rmON l Z a0 hw [] s1 oe om s0 zc v1 v0 kv1 kv0 (7 : Int32) _ T2_.heap n0 sz (S0.ext old.2) (S1.ext old.2) (Fs0.ext old.2) hs10 (Sc.ext old.2) hzc (Es1.ext old.2) (Fc1.ext old.2) (Fv1.ext old.2) (Es0.ext old.2) (Fc0.ext old.2) (Fv0.ext old.2) (V1.ext old.2) (V0.ext old.2) (by decide)) hZ (hw _ (List.mem_of_getElem? (i := 68) rfl)) (hw _ (List.mem_of_getElem? (i := 64) rfl)) (by decide) (by decide)) (g := (mkF m 395 #[.val (.int i0), .val (.int i1), .val (.int i2), .val (.int i3), .val (.int md), .val (.int ps), .val (.int ch), .val (.ref b1), .val (.ref b2), .val (.ref b3), .val (.ref b4), .val (.ref b5), .val (.int (0 : Int32)), .val (.ref om), .val (.ref om)] [(.ref s1)])) rfl (by rw [hml]; rfl) (argsL := [(.ref s1)]) (rest := []) (lenOf pd__28Ljava_2flang_2fString_3b_29Lcom_2fexample_2fstanding_order_2fstandingorder_2fapi_2fInstanceForm_3b rfl) rfl (by show 2 * 0 + _ ≤ _; exact Nat.le_of_eq rfl) (hb hby at_395) (fun _ _ => ⟨rfl, e19_, (by decide : 6 + 0 ≤ _), (by decide : 24 + 0 ≤ _)⟩)
          dsimp only [Pt.U, Pt.locs, Pt.cells, Pt.slots] at X20_ l20_ y20_ z20_ st20_ hQ20_
          subst l20_ y20_ z20_
          obtain ⟨rfl, N20_q, e20_⟩ := hQ20_
          have N20_ := Fr.app N19_ N20_q
          refine Runs.st (st20_) ?_
          replace X20_ := wider X20_ (c' := 6) (s' := 24) (by decide) (by decide)
          show Runs p.tables e below _ (T20_.setTop (mkF m 398 #[.val (.int i0), .val (.int i1), .val (.int i2), .val (.int i3), .val (.int md), .val (.int ps), .val (.int ch), .val (.ref b1), .val (.ref b2), .val (.ref b3), .val (.ref b4), .val (.ref b5), .val (.int (0 : Int32)), .val (.ref om), .val (.ref om)] [(.ref om)]))
          refine Runs.st (fun t' k' => XS.aload X20_.here hx rfl (hb hby at_398) rfl rfl k') ?_
          refine Runs.st (fun t' k' => Jvm.RoadKit.acmp (g := (mkF m 400 #[.val (.int i0), .val (.int i1), .val (.int i2), .val (.int i3), .val (.int md), .val (.int ps), .val (.int ch), .val (.ref b1), .val (.ref b2), .val (.ref b3), .val (.ref b4), .val (.ref b5), .val (.int (0 : Int32)), .val (.ref om), .val (.ref om)] [(.ref om), (.ref om)])) X20_ hx rfl rfl rfl (pc0 := 400) (pc' := 403) (same := true) rfl (hb hby at_400) rfl (decide_eq_true rfl) (by decide) (by decide) k') ?_
          show Runs p.tables e below _ (T20_.setTop (mkF m 403 #[.val (.int i0), .val (.int i1), .val (.int i2), .val (.int i3), .val (.int md), .val (.int ps), .val (.int ch), .val (.ref b1), .val (.ref b2), .val (.ref b3), .val (.ref b4), .val (.ref b5), .val (.int (0 : Int32)), .val (.ref om), .val (.ref om)] []))
          refine Runs.st (fun t' k' => XS.iconst X20_.here hx rfl (hb hby at_403) k') ?_
          refine Runs.st (fun t' k' => XS.goto X20_.here hx rfl (pc0 := 404) (pc' := 408) rfl (hb hby at_404) (by decide) (by decide) k') ?_
          refine Runs.retW (s := s) (vm₁ := vm0) X20_ hS (by rw [e20_]; exact hk) hlk (v := (some (.int (1 : Int32)))) (fun h => by rw [hret] at h; cases h) (by decide) (by decide) ?_ (fun fs hr => retN X20_ hx (t := .boolean) hret (by simp) (hb hby at_408) hr)
          try rw [e20_]
          exact ⟨rfl, N20_⟩
      · skip
        refine Runs.st (fun t' k' => XS.icmpYes X6_.here hx rfl (pc0 := 328) (pc' := 357) rfl (hb hby at_328) rfl (feq d2).2 (by decide) (by decide) k') ?_
        show Runs p.tables e below _ (T6_.setTop (mkF m 357 #[.val (.int i0), .val (.int i1), .val (.int i2), .val (.int i3), .val (.int md), .val (.int ps), .val (.int ch), .val (.ref b1), .val (.ref b2), .val (.ref b3), .val (.ref b4), .val (.ref b5), .unset, .unset, .unset] []))
        refine Runs.st (fun t' k' => XS.iconst X6_.here hx rfl (hb hby at_357) k') ?_
        refine Runs.st (fun t' k' => XS.istore X6_.here hx rfl (hb hby at_358) rfl (l' := #[.val (.int i0), .val (.int i1), .val (.int i2), .val (.int i3), .val (.int md), .val (.int ps), .val (.int ch), .val (.ref b1), .val (.ref b2), .val (.ref b3), .val (.ref b4), .val (.ref b5), .val (.int (0 : Int32)), .unset, .unset]) rfl k') ?_
        refine Runs.st (fun t' k' => XS.iload X6_.here hx rfl (hb hby at_360) rfl k') ?_
        refine Runs.st (fun t' k' => XS.ifYes X6_.here hx rfl (pc0 := 362) (pc' := 371) rfl (hb hby at_362) rfl ((if0 _ _).trans (teq rfl).1) (by decide) (by decide) k') ?_
        show Runs p.tables e below _ (T6_.setTop (mkF m 371 #[.val (.int i0), .val (.int i1), .val (.int i2), .val (.int i3), .val (.int md), .val (.int ps), .val (.int ch), .val (.ref b1), .val (.ref b2), .val (.ref b3), .val (.ref b4), .val (.ref b5), .val (.int (0 : Int32)), .unset, .unset] []))
        obtain ⟨T21_, X21_, e21_, st21_⟩ := getS2 X6_ hx hZ hown (host := "") (Or.inl (hw _ (List.mem_of_getElem? (i := 86) rfl))) Via.refl e6_ (S1.ext old.2) (g := (mkF m 371 #[.val (.int i0), .val (.int i1), .val (.int i2), .val (.int i3), .val (.int md), .val (.int ps), .val (.int ch), .val (.ref b1), .val (.ref b2), .val (.ref b3), .val (.ref b4), .val (.ref b5), .val (.int (0 : Int32)), .unset, .unset] [])) rfl (hb hby at_371)
        refine Runs.st (st21_) ?_
        show Runs p.tables e below _ (T21_.setTop (mkF m 374 #[.val (.int i0), .val (.int i1), .val (.int i2), .val (.int i3), .val (.int md), .val (.int ps), .val (.int ch), .val (.ref b1), .val (.ref b2), .val (.ref b3), .val (.ref b4), .val (.ref b5), .val (.int (0 : Int32)), .unset, .unset] [(.ref om)]))
        refine Runs.st (fun t' k' => XS.astore X21_.here hx rfl (hb hby at_374) rfl rfl (l' := #[.val (.int i0), .val (.int i1), .val (.int i2), .val (.int i3), .val (.int md), .val (.int ps), .val (.int ch), .val (.ref b1), .val (.ref b2), .val (.ref b3), .val (.ref b4), .val (.ref b5), .val (.int (0 : Int32)), .val (.ref om), .unset]) rfl k') ?_
        refine Runs.st (fun t' k' => XS.aload X21_.here hx rfl (hb hby at_376) rfl rfl k') ?_
        obtain ⟨_, _, ⟨T22_, L22_, k22_, n22_⟩, -, X22_, ⟨Lc22_, hQ22_, l22_, y22_, z22_⟩, st22_⟩ := Jvm.LawKit.callS X21_ hx (y := (⟨"com/example/standing_order/standingorder/api/InstanceForm", "ofEngine", "(Ljava/lang/String;)Lcom/example/standing_order/standingorder/api/InstanceForm;"⟩ : MethodName)) hown (mvT hZ (hw _ (List.mem_of_getElem? (i := 66) rfl))) (mvT hZ (hw _ (List.mem_of_getElem? (i := 67) rfl))) (mvT hZ (hw _ (List.mem_of_getElem? (i := 64) rfl))) (mvT hZ (hw _ (List.mem_of_getElem? (i := 68) rfl))) (by decide) (backOf (W := 0) (rmO2 l Z a0 hw [] b5 oe om s0 zc b6 v0 kb6 kv0 (nar .byte (c0.toInt8.toInt32)) (nar .byte (c1.toInt8.toInt32)) (nar .byte (c2.toInt8.toInt32)) (nar .byte (c3.toInt8.toInt32)) (nar .byte (c4.toInt8.toInt32)) T2_.heap n0 sz (S0.ext old.2) (S1.ext old.2) (Fs0.ext old.2) (Ne.symm (old.ne Es0.lt g_b5)) (Sc.ext old.2) hzc E_b5 Fc_b5 Fv_b5 (Es0.ext old.2) (Fc0.ext old.2) (Fv0.ext old.2) V_b6 (V0.ext old.2) ((own_bl c0 _ r0 (by decide)).mpr d0) ((own_bl c1 _ r1 (by decide)).mpr d1) (fun q => d2 ((own_bl c2 _ r2 (by decide)).mp q))) hZ (hw _ (List.mem_of_getElem? (i := 68) rfl)) (hw _ (List.mem_of_getElem? (i := 64) rfl)) (by decide) (by decide)) (g := (mkF m 378 #[.val (.int i0), .val (.int i1), .val (.int i2), .val (.int i3), .val (.int md), .val (.int ps), .val (.int ch), .val (.ref b1), .val (.ref b2), .val (.ref b3), .val (.ref b4), .val (.ref b5), .val (.int (0 : Int32)), .val (.ref om), .unset] [(.ref b5)])) rfl (by rw [hml]; rfl) (argsL := [(.ref b5)]) (rest := []) (lenOf pd__28Ljava_2flang_2fString_3b_29Lcom_2fexample_2fstanding_order_2fstandingorder_2fapi_2fInstanceForm_3b rfl) rfl (by show 2 * 0 + _ ≤ _; exact Nat.le_of_eq rfl) (hb hby at_378) (fun _ _ => ⟨rfl, e21_, (by decide : 6 + 0 ≤ _), (by decide : 24 + 0 ≤ _)⟩)
        dsimp only [Pt.U, Pt.locs, Pt.cells, Pt.slots] at X22_ l22_ y22_ z22_ st22_ hQ22_
        subst l22_ y22_ z22_
        obtain ⟨rfl, N22_q, e22_⟩ := hQ22_
        have N22_ := Fr.app N6_ N22_q
        refine Runs.st (st22_) ?_
        replace X22_ := wider X22_ (c' := 6) (s' := 24) (by decide) (by decide)
        show Runs p.tables e below _ (T22_.setTop (mkF m 381 #[.val (.int i0), .val (.int i1), .val (.int i2), .val (.int i3), .val (.int md), .val (.int ps), .val (.int ch), .val (.ref b1), .val (.ref b2), .val (.ref b3), .val (.ref b4), .val (.ref b5), .val (.int (0 : Int32)), .val (.ref om), .unset] [(.ref om)]))
        refine Runs.st (fun t' k' => XS.astore X22_.here hx rfl (hb hby at_381) rfl rfl (l' := #[.val (.int i0), .val (.int i1), .val (.int i2), .val (.int i3), .val (.int md), .val (.int ps), .val (.int ch), .val (.ref b1), .val (.ref b2), .val (.ref b3), .val (.ref b4), .val (.ref b5), .val (.int (0 : Int32)), .val (.ref om), .val (.ref om)]) rfl k') ?_
        refine Runs.st (fun t' k' => XS.aload X22_.here hx rfl (hb hby at_383) rfl rfl k') ?_
        refine Runs.st (fun t' k' => XS.aload X22_.here hx rfl (hb hby at_385) rfl rfl k') ?_
        refine Runs.st (fun t' k' => Jvm.RoadKit.acmp (g := (mkF m 387 #[.val (.int i0), .val (.int i1), .val (.int i2), .val (.int i3), .val (.int md), .val (.int ps), .val (.int ch), .val (.ref b1), .val (.ref b2), .val (.ref b3), .val (.ref b4), .val (.ref b5), .val (.int (0 : Int32)), .val (.ref om), .val (.ref om)] [(.ref om), (.ref om)])) X22_ hx rfl rfl rfl (pc0 := 387) (pc' := 390) (same := true) rfl (hb hby at_387) rfl (decide_eq_true rfl) (by decide) (by decide) k') ?_
        show Runs p.tables e below _ (T22_.setTop (mkF m 390 #[.val (.int i0), .val (.int i1), .val (.int i2), .val (.int i3), .val (.int md), .val (.int ps), .val (.int ch), .val (.ref b1), .val (.ref b2), .val (.ref b3), .val (.ref b4), .val (.ref b5), .val (.int (0 : Int32)), .val (.ref om), .val (.ref om)] []))
        refine Runs.st (fun t' k' => XS.aload X22_.here hx rfl (hb hby at_390) rfl rfl k') ?_
        obtain ⟨cq23_, kq23_, q23_a, q23_b, q23_c⟩ := isOf hZ e22_ (E1.ext old.2)
        obtain ⟨_, _, ⟨T23_, L23_, k23_, n23_⟩, -, X23_, ⟨Lc23_, hQ23_, l23_, y23_, z23_⟩, st23_⟩ := X22_.virtualBack hx (y := (⟨"com/example/standing_order/standingorder/api/InstanceForm", "engine", "()Ljava/lang/String;"⟩ : MethodName)) (z := (⟨"com/example/standing_order/standingorder/api/InstanceForm", "engine", "()Ljava/lang/String;"⟩ : MethodName)) hown (mvT hZ (hw _ (List.mem_of_getElem? (i := 81) rfl))) (mvT hZ (hw _ (List.mem_of_getElem? (i := 82) rfl))) (notFace_of_selects (args := #[]) (mvT hZ (hw _ (List.mem_of_getElem? (i := 84) rfl)))) (mvT hZ (hw _ (List.mem_of_getElem? (i := 84) rfl))) (mvT hZ (hw _ (List.mem_of_getElem? (i := 83) rfl))) (by decide) (backOf (W := 0) (rmEng l Z a0 hw [] om s1 T2_.heap n0 sz (Fs1.ext old.2)) hZ (hw _ (List.mem_of_getElem? (i := 85) rfl)) (hw _ (List.mem_of_getElem? (i := 64) rfl)) (by decide) (by decide)) q23_a q23_c (g := (mkF m 392 #[.val (.int i0), .val (.int i1), .val (.int i2), .val (.int i3), .val (.int md), .val (.int ps), .val (.int ch), .val (.ref b1), .val (.ref b2), .val (.ref b3), .val (.ref b4), .val (.ref b5), .val (.int (0 : Int32)), .val (.ref om), .val (.ref om)] [(.ref om)])) rfl (by rw [hml]; rfl) (Steps.refl _) (argsL := []) (rest := []) (lenOf pd__28_29Ljava_2flang_2fString_3b rfl) rfl (by show 2 * 0 + _ ≤ _; exact Nat.le_of_eq rfl) (hb hby at_392) (fun _ _ => ⟨rfl, e22_, (by decide : 6 + 0 ≤ _), (by decide : 24 + 0 ≤ _)⟩)
        dsimp only [Pt.U, Pt.locs, Pt.cells, Pt.slots] at X23_ l23_ y23_ z23_ st23_ hQ23_
        subst l23_ y23_ z23_
        obtain ⟨rfl, N23_q, e23_⟩ := hQ23_
        have N23_ := Fr.app N22_ N23_q
        refine Runs.tr st23_ ?_
        replace X23_ := wider X23_ (c' := 6) (s' := 24) (by decide) (by decide)
        show Runs p.tables e below _ (T23_.setTop (mkF m 395 #[.val (.int i0), .val (.int i1), .val (.int i2), .val (.int i3), .val (.int md), .val (.int ps), .val (.int ch), .val (.ref b1), .val (.ref b2), .val (.ref b3), .val (.ref b4), .val (.ref b5), .val (.int (0 : Int32)), .val (.ref om), .val (.ref om)] [(.ref s1)]))
        obtain ⟨_, _, ⟨T24_, L24_, k24_, n24_⟩, -, X24_, ⟨Lc24_, hQ24_, l24_, y24_, z24_⟩, st24_⟩ := Jvm.LawKit.callS X23_ hx (y := (⟨"com/example/standing_order/standingorder/api/InstanceForm", "ofEngine", "(Ljava/lang/String;)Lcom/example/standing_order/standingorder/api/InstanceForm;"⟩ : MethodName)) hown (mvT hZ (hw _ (List.mem_of_getElem? (i := 66) rfl))) (mvT hZ (hw _ (List.mem_of_getElem? (i := 67) rfl))) (mvT hZ (hw _ (List.mem_of_getElem? (i := 64) rfl))) (mvT hZ (hw _ (List.mem_of_getElem? (i := 68) rfl))) (by decide) (backOf (W := 0) (rmON l Z a0 hw [] s1 oe om s0 zc v1 v0 kv1 kv0 (7 : Int32) _ T2_.heap n0 sz (S0.ext old.2) (S1.ext old.2) (Fs0.ext old.2) hs10 (Sc.ext old.2) hzc (Es1.ext old.2) (Fc1.ext old.2) (Fv1.ext old.2) (Es0.ext old.2) (Fc0.ext old.2) (Fv0.ext old.2) (V1.ext old.2) (V0.ext old.2) (by decide)) hZ (hw _ (List.mem_of_getElem? (i := 68) rfl)) (hw _ (List.mem_of_getElem? (i := 64) rfl)) (by decide) (by decide)) (g := (mkF m 395 #[.val (.int i0), .val (.int i1), .val (.int i2), .val (.int i3), .val (.int md), .val (.int ps), .val (.int ch), .val (.ref b1), .val (.ref b2), .val (.ref b3), .val (.ref b4), .val (.ref b5), .val (.int (0 : Int32)), .val (.ref om), .val (.ref om)] [(.ref s1)])) rfl (by rw [hml]; rfl) (argsL := [(.ref s1)]) (rest := []) (lenOf pd__28Ljava_2flang_2fString_3b_29Lcom_2fexample_2fstanding_order_2fstandingorder_2fapi_2fInstanceForm_3b rfl) rfl (by show 2 * 0 + _ ≤ _; exact Nat.le_of_eq rfl) (hb hby at_395) (fun _ _ => ⟨rfl, e23_, (by decide : 6 + 0 ≤ _), (by decide : 24 + 0 ≤ _)⟩)
        dsimp only [Pt.U, Pt.locs, Pt.cells, Pt.slots] at X24_ l24_ y24_ z24_ st24_ hQ24_
        subst l24_ y24_ z24_
        obtain ⟨rfl, N24_q, e24_⟩ := hQ24_
        have N24_ := Fr.app N23_ N24_q
        refine Runs.st (st24_) ?_
        replace X24_ := wider X24_ (c' := 6) (s' := 24) (by decide) (by decide)
        show Runs p.tables e below _ (T24_.setTop (mkF m 398 #[.val (.int i0), .val (.int i1), .val (.int i2), .val (.int i3), .val (.int md), .val (.int ps), .val (.int ch), .val (.ref b1), .val (.ref b2), .val (.ref b3), .val (.ref b4), .val (.ref b5), .val (.int (0 : Int32)), .val (.ref om), .val (.ref om)] [(.ref om)]))
        refine Runs.st (fun t' k' => XS.aload X24_.here hx rfl (hb hby at_398) rfl rfl k') ?_
        refine Runs.st (fun t' k' => Jvm.RoadKit.acmp (g := (mkF m 400 #[.val (.int i0), .val (.int i1), .val (.int i2), .val (.int i3), .val (.int md), .val (.int ps), .val (.int ch), .val (.ref b1), .val (.ref b2), .val (.ref b3), .val (.ref b4), .val (.ref b5), .val (.int (0 : Int32)), .val (.ref om), .val (.ref om)] [(.ref om), (.ref om)])) X24_ hx rfl rfl rfl (pc0 := 400) (pc' := 403) (same := true) rfl (hb hby at_400) rfl (decide_eq_true rfl) (by decide) (by decide) k') ?_
        show Runs p.tables e below _ (T24_.setTop (mkF m 403 #[.val (.int i0), .val (.int i1), .val (.int i2), .val (.int i3), .val (.int md), .val (.int ps), .val (.int ch), .val (.ref b1), .val (.ref b2), .val (.ref b3), .val (.ref b4), .val (.ref b5), .val (.int (0 : Int32)), .val (.ref om), .val (.ref om)] []))
        refine Runs.st (fun t' k' => XS.iconst X24_.here hx rfl (hb hby at_403) k') ?_
        refine Runs.st (fun t' k' => XS.goto X24_.here hx rfl (pc0 := 404) (pc' := 408) rfl (hb hby at_404) (by decide) (by decide) k') ?_
        refine Runs.retW (s := s) (vm₁ := vm0) X24_ hS (by rw [e24_]; exact hk) hlk (v := (some (.int (1 : Int32)))) (fun h => by rw [hret] at h; cases h) (by decide) (by decide) ?_ (fun fs hr => retN X24_ hx (t := .boolean) hret (by simp) (hb hby at_408) hr)
        try rw [e24_]
        exact ⟨rfl, N24_⟩
    · skip
      refine Runs.st (fun t' k' => XS.icmpYes X5_.here hx rfl (pc0 := 317) (pc' := 357) rfl (hb hby at_317) rfl (feq d1).2 (by decide) (by decide) k') ?_
      show Runs p.tables e below _ (T5_.setTop (mkF m 357 #[.val (.int i0), .val (.int i1), .val (.int i2), .val (.int i3), .val (.int md), .val (.int ps), .val (.int ch), .val (.ref b1), .val (.ref b2), .val (.ref b3), .val (.ref b4), .val (.ref b5), .unset, .unset, .unset] []))
      refine Runs.st (fun t' k' => XS.iconst X5_.here hx rfl (hb hby at_357) k') ?_
      refine Runs.st (fun t' k' => XS.istore X5_.here hx rfl (hb hby at_358) rfl (l' := #[.val (.int i0), .val (.int i1), .val (.int i2), .val (.int i3), .val (.int md), .val (.int ps), .val (.int ch), .val (.ref b1), .val (.ref b2), .val (.ref b3), .val (.ref b4), .val (.ref b5), .val (.int (0 : Int32)), .unset, .unset]) rfl k') ?_
      refine Runs.st (fun t' k' => XS.iload X5_.here hx rfl (hb hby at_360) rfl k') ?_
      refine Runs.st (fun t' k' => XS.ifYes X5_.here hx rfl (pc0 := 362) (pc' := 371) rfl (hb hby at_362) rfl ((if0 _ _).trans (teq rfl).1) (by decide) (by decide) k') ?_
      show Runs p.tables e below _ (T5_.setTop (mkF m 371 #[.val (.int i0), .val (.int i1), .val (.int i2), .val (.int i3), .val (.int md), .val (.int ps), .val (.int ch), .val (.ref b1), .val (.ref b2), .val (.ref b3), .val (.ref b4), .val (.ref b5), .val (.int (0 : Int32)), .unset, .unset] []))
      obtain ⟨T25_, X25_, e25_, st25_⟩ := getS2 X5_ hx hZ hown (host := "") (Or.inl (hw _ (List.mem_of_getElem? (i := 86) rfl))) Via.refl e5_ (S1.ext old.2) (g := (mkF m 371 #[.val (.int i0), .val (.int i1), .val (.int i2), .val (.int i3), .val (.int md), .val (.int ps), .val (.int ch), .val (.ref b1), .val (.ref b2), .val (.ref b3), .val (.ref b4), .val (.ref b5), .val (.int (0 : Int32)), .unset, .unset] [])) rfl (hb hby at_371)
      refine Runs.st (st25_) ?_
      show Runs p.tables e below _ (T25_.setTop (mkF m 374 #[.val (.int i0), .val (.int i1), .val (.int i2), .val (.int i3), .val (.int md), .val (.int ps), .val (.int ch), .val (.ref b1), .val (.ref b2), .val (.ref b3), .val (.ref b4), .val (.ref b5), .val (.int (0 : Int32)), .unset, .unset] [(.ref om)]))
      refine Runs.st (fun t' k' => XS.astore X25_.here hx rfl (hb hby at_374) rfl rfl (l' := #[.val (.int i0), .val (.int i1), .val (.int i2), .val (.int i3), .val (.int md), .val (.int ps), .val (.int ch), .val (.ref b1), .val (.ref b2), .val (.ref b3), .val (.ref b4), .val (.ref b5), .val (.int (0 : Int32)), .val (.ref om), .unset]) rfl k') ?_
      refine Runs.st (fun t' k' => XS.aload X25_.here hx rfl (hb hby at_376) rfl rfl k') ?_
      obtain ⟨_, _, ⟨T26_, L26_, k26_, n26_⟩, -, X26_, ⟨Lc26_, hQ26_, l26_, y26_, z26_⟩, st26_⟩ := Jvm.LawKit.callS X25_ hx (y := (⟨"com/example/standing_order/standingorder/api/InstanceForm", "ofEngine", "(Ljava/lang/String;)Lcom/example/standing_order/standingorder/api/InstanceForm;"⟩ : MethodName)) hown (mvT hZ (hw _ (List.mem_of_getElem? (i := 66) rfl))) (mvT hZ (hw _ (List.mem_of_getElem? (i := 67) rfl))) (mvT hZ (hw _ (List.mem_of_getElem? (i := 64) rfl))) (mvT hZ (hw _ (List.mem_of_getElem? (i := 68) rfl))) (by decide) (backOf (W := 0) (rmO1 l Z a0 hw [] b5 oe om s0 zc b6 v0 kb6 kv0 (nar .byte (c0.toInt8.toInt32)) (nar .byte (c1.toInt8.toInt32)) (nar .byte (c2.toInt8.toInt32)) (nar .byte (c3.toInt8.toInt32)) (nar .byte (c4.toInt8.toInt32)) T2_.heap n0 sz (S0.ext old.2) (S1.ext old.2) (Fs0.ext old.2) (Ne.symm (old.ne Es0.lt g_b5)) (Sc.ext old.2) hzc E_b5 Fc_b5 Fv_b5 (Es0.ext old.2) (Fc0.ext old.2) (Fv0.ext old.2) V_b6 (V0.ext old.2) ((own_bl c0 _ r0 (by decide)).mpr d0) (fun q => d1 ((own_bl c1 _ r1 (by decide)).mp q))) hZ (hw _ (List.mem_of_getElem? (i := 68) rfl)) (hw _ (List.mem_of_getElem? (i := 64) rfl)) (by decide) (by decide)) (g := (mkF m 378 #[.val (.int i0), .val (.int i1), .val (.int i2), .val (.int i3), .val (.int md), .val (.int ps), .val (.int ch), .val (.ref b1), .val (.ref b2), .val (.ref b3), .val (.ref b4), .val (.ref b5), .val (.int (0 : Int32)), .val (.ref om), .unset] [(.ref b5)])) rfl (by rw [hml]; rfl) (argsL := [(.ref b5)]) (rest := []) (lenOf pd__28Ljava_2flang_2fString_3b_29Lcom_2fexample_2fstanding_order_2fstandingorder_2fapi_2fInstanceForm_3b rfl) rfl (by show 2 * 0 + _ ≤ _; exact Nat.le_of_eq rfl) (hb hby at_378) (fun _ _ => ⟨rfl, e25_, (by decide : 6 + 0 ≤ _), (by decide : 24 + 0 ≤ _)⟩)
      dsimp only [Pt.U, Pt.locs, Pt.cells, Pt.slots] at X26_ l26_ y26_ z26_ st26_ hQ26_
      subst l26_ y26_ z26_
      obtain ⟨rfl, N26_q, e26_⟩ := hQ26_
      have N26_ := Fr.app N5_ N26_q
      refine Runs.st (st26_) ?_
      replace X26_ := wider X26_ (c' := 6) (s' := 24) (by decide) (by decide)
      show Runs p.tables e below _ (T26_.setTop (mkF m 381 #[.val (.int i0), .val (.int i1), .val (.int i2), .val (.int i3), .val (.int md), .val (.int ps), .val (.int ch), .val (.ref b1), .val (.ref b2), .val (.ref b3), .val (.ref b4), .val (.ref b5), .val (.int (0 : Int32)), .val (.ref om), .unset] [(.ref om)]))
      refine Runs.st (fun t' k' => XS.astore X26_.here hx rfl (hb hby at_381) rfl rfl (l' := #[.val (.int i0), .val (.int i1), .val (.int i2), .val (.int i3), .val (.int md), .val (.int ps), .val (.int ch), .val (.ref b1), .val (.ref b2), .val (.ref b3), .val (.ref b4), .val (.ref b5), .val (.int (0 : Int32)), .val (.ref om), .val (.ref om)]) rfl k') ?_
      refine Runs.st (fun t' k' => XS.aload X26_.here hx rfl (hb hby at_383) rfl rfl k') ?_
      refine Runs.st (fun t' k' => XS.aload X26_.here hx rfl (hb hby at_385) rfl rfl k') ?_
      refine Runs.st (fun t' k' => Jvm.RoadKit.acmp (g := (mkF m 387 #[.val (.int i0), .val (.int i1), .val (.int i2), .val (.int i3), .val (.int md), .val (.int ps), .val (.int ch), .val (.ref b1), .val (.ref b2), .val (.ref b3), .val (.ref b4), .val (.ref b5), .val (.int (0 : Int32)), .val (.ref om), .val (.ref om)] [(.ref om), (.ref om)])) X26_ hx rfl rfl rfl (pc0 := 387) (pc' := 390) (same := true) rfl (hb hby at_387) rfl (decide_eq_true rfl) (by decide) (by decide) k') ?_
      show Runs p.tables e below _ (T26_.setTop (mkF m 390 #[.val (.int i0), .val (.int i1), .val (.int i2), .val (.int i3), .val (.int md), .val (.int ps), .val (.int ch), .val (.ref b1), .val (.ref b2), .val (.ref b3), .val (.ref b4), .val (.ref b5), .val (.int (0 : Int32)), .val (.ref om), .val (.ref om)] []))
      refine Runs.st (fun t' k' => XS.aload X26_.here hx rfl (hb hby at_390) rfl rfl k') ?_
      obtain ⟨cq27_, kq27_, q27_a, q27_b, q27_c⟩ := isOf hZ e26_ (E1.ext old.2)
      obtain ⟨_, _, ⟨T27_, L27_, k27_, n27_⟩, -, X27_, ⟨Lc27_, hQ27_, l27_, y27_, z27_⟩, st27_⟩ := X26_.virtualBack hx (y := (⟨"com/example/standing_order/standingorder/api/InstanceForm", "engine", "()Ljava/lang/String;"⟩ : MethodName)) (z := (⟨"com/example/standing_order/standingorder/api/InstanceForm", "engine", "()Ljava/lang/String;"⟩ : MethodName)) hown (mvT hZ (hw _ (List.mem_of_getElem? (i := 81) rfl))) (mvT hZ (hw _ (List.mem_of_getElem? (i := 82) rfl))) (notFace_of_selects (args := #[]) (mvT hZ (hw _ (List.mem_of_getElem? (i := 84) rfl)))) (mvT hZ (hw _ (List.mem_of_getElem? (i := 84) rfl))) (mvT hZ (hw _ (List.mem_of_getElem? (i := 83) rfl))) (by decide) (backOf (W := 0) (rmEng l Z a0 hw [] om s1 T2_.heap n0 sz (Fs1.ext old.2)) hZ (hw _ (List.mem_of_getElem? (i := 85) rfl)) (hw _ (List.mem_of_getElem? (i := 64) rfl)) (by decide) (by decide)) q27_a q27_c (g := (mkF m 392 #[.val (.int i0), .val (.int i1), .val (.int i2), .val (.int i3), .val (.int md), .val (.int ps), .val (.int ch), .val (.ref b1), .val (.ref b2), .val (.ref b3), .val (.ref b4), .val (.ref b5), .val (.int (0 : Int32)), .val (.ref om), .val (.ref om)] [(.ref om)])) rfl (by rw [hml]; rfl) (Steps.refl _) (argsL := []) (rest := []) (lenOf pd__28_29Ljava_2flang_2fString_3b rfl) rfl (by show 2 * 0 + _ ≤ _; exact Nat.le_of_eq rfl) (hb hby at_392) (fun _ _ => ⟨rfl, e26_, (by decide : 6 + 0 ≤ _), (by decide : 24 + 0 ≤ _)⟩)
      dsimp only [Pt.U, Pt.locs, Pt.cells, Pt.slots] at X27_ l27_ y27_ z27_ st27_ hQ27_
      subst l27_ y27_ z27_
      obtain ⟨rfl, N27_q, e27_⟩ := hQ27_
      have N27_ := Fr.app N26_ N27_q
      refine Runs.tr st27_ ?_
      replace X27_ := wider X27_ (c' := 6) (s' := 24) (by decide) (by decide)
      show Runs p.tables e below _ (T27_.setTop (mkF m 395 #[.val (.int i0), .val (.int i1), .val (.int i2), .val (.int i3), .val (.int md), .val (.int ps), .val (.int ch), .val (.ref b1), .val (.ref b2), .val (.ref b3), .val (.ref b4), .val (.ref b5), .val (.int (0 : Int32)), .val (.ref om), .val (.ref om)] [(.ref s1)]))
      obtain ⟨_, _, ⟨T28_, L28_, k28_, n28_⟩, -, X28_, ⟨Lc28_, hQ28_, l28_, y28_, z28_⟩, st28_⟩ := Jvm.LawKit.callS X27_ hx (y := (⟨"com/example/standing_order/standingorder/api/InstanceForm", "ofEngine", "(Ljava/lang/String;)Lcom/example/standing_order/standingorder/api/InstanceForm;"⟩ : MethodName)) hown (mvT hZ (hw _ (List.mem_of_getElem? (i := 66) rfl))) (mvT hZ (hw _ (List.mem_of_getElem? (i := 67) rfl))) (mvT hZ (hw _ (List.mem_of_getElem? (i := 64) rfl))) (mvT hZ (hw _ (List.mem_of_getElem? (i := 68) rfl))) (by decide) (backOf (W := 0) (rmON l Z a0 hw [] s1 oe om s0 zc v1 v0 kv1 kv0 (7 : Int32) _ T2_.heap n0 sz (S0.ext old.2) (S1.ext old.2) (Fs0.ext old.2) hs10 (Sc.ext old.2) hzc (Es1.ext old.2) (Fc1.ext old.2) (Fv1.ext old.2) (Es0.ext old.2) (Fc0.ext old.2) (Fv0.ext old.2) (V1.ext old.2) (V0.ext old.2) (by decide)) hZ (hw _ (List.mem_of_getElem? (i := 68) rfl)) (hw _ (List.mem_of_getElem? (i := 64) rfl)) (by decide) (by decide)) (g := (mkF m 395 #[.val (.int i0), .val (.int i1), .val (.int i2), .val (.int i3), .val (.int md), .val (.int ps), .val (.int ch), .val (.ref b1), .val (.ref b2), .val (.ref b3), .val (.ref b4), .val (.ref b5), .val (.int (0 : Int32)), .val (.ref om), .val (.ref om)] [(.ref s1)])) rfl (by rw [hml]; rfl) (argsL := [(.ref s1)]) (rest := []) (lenOf pd__28Ljava_2flang_2fString_3b_29Lcom_2fexample_2fstanding_order_2fstandingorder_2fapi_2fInstanceForm_3b rfl) rfl (by show 2 * 0 + _ ≤ _; exact Nat.le_of_eq rfl) (hb hby at_395) (fun _ _ => ⟨rfl, e27_, (by decide : 6 + 0 ≤ _), (by decide : 24 + 0 ≤ _)⟩)
      dsimp only [Pt.U, Pt.locs, Pt.cells, Pt.slots] at X28_ l28_ y28_ z28_ st28_ hQ28_
      subst l28_ y28_ z28_
      obtain ⟨rfl, N28_q, e28_⟩ := hQ28_
      have N28_ := Fr.app N27_ N28_q
      refine Runs.st (st28_) ?_
      replace X28_ := wider X28_ (c' := 6) (s' := 24) (by decide) (by decide)
      show Runs p.tables e below _ (T28_.setTop (mkF m 398 #[.val (.int i0), .val (.int i1), .val (.int i2), .val (.int i3), .val (.int md), .val (.int ps), .val (.int ch), .val (.ref b1), .val (.ref b2), .val (.ref b3), .val (.ref b4), .val (.ref b5), .val (.int (0 : Int32)), .val (.ref om), .val (.ref om)] [(.ref om)]))
      refine Runs.st (fun t' k' => XS.aload X28_.here hx rfl (hb hby at_398) rfl rfl k') ?_
      refine Runs.st (fun t' k' => Jvm.RoadKit.acmp (g := (mkF m 400 #[.val (.int i0), .val (.int i1), .val (.int i2), .val (.int i3), .val (.int md), .val (.int ps), .val (.int ch), .val (.ref b1), .val (.ref b2), .val (.ref b3), .val (.ref b4), .val (.ref b5), .val (.int (0 : Int32)), .val (.ref om), .val (.ref om)] [(.ref om), (.ref om)])) X28_ hx rfl rfl rfl (pc0 := 400) (pc' := 403) (same := true) rfl (hb hby at_400) rfl (decide_eq_true rfl) (by decide) (by decide) k') ?_
      show Runs p.tables e below _ (T28_.setTop (mkF m 403 #[.val (.int i0), .val (.int i1), .val (.int i2), .val (.int i3), .val (.int md), .val (.int ps), .val (.int ch), .val (.ref b1), .val (.ref b2), .val (.ref b3), .val (.ref b4), .val (.ref b5), .val (.int (0 : Int32)), .val (.ref om), .val (.ref om)] []))
      refine Runs.st (fun t' k' => XS.iconst X28_.here hx rfl (hb hby at_403) k') ?_
      refine Runs.st (fun t' k' => XS.goto X28_.here hx rfl (pc0 := 404) (pc' := 408) rfl (hb hby at_404) (by decide) (by decide) k') ?_
      refine Runs.retW (s := s) (vm₁ := vm0) X28_ hS (by rw [e28_]; exact hk) hlk (v := (some (.int (1 : Int32)))) (fun h => by rw [hret] at h; cases h) (by decide) (by decide) ?_ (fun fs hr => retN X28_ hx (t := .boolean) hret (by simp) (hb hby at_408) hr)
      try rw [e28_]
      exact ⟨rfl, N28_⟩
  · skip
    refine Runs.st (fun t' k' => XS.icmpYes X4_.here hx rfl (pc0 := 306) (pc' := 357) rfl (hb hby at_306) rfl (feq d0).2 (by decide) (by decide) k') ?_
    show Runs p.tables e below _ (T4_.setTop (mkF m 357 #[.val (.int i0), .val (.int i1), .val (.int i2), .val (.int i3), .val (.int md), .val (.int ps), .val (.int ch), .val (.ref b1), .val (.ref b2), .val (.ref b3), .val (.ref b4), .val (.ref b5), .unset, .unset, .unset] []))
    refine Runs.st (fun t' k' => XS.iconst X4_.here hx rfl (hb hby at_357) k') ?_
    refine Runs.st (fun t' k' => XS.istore X4_.here hx rfl (hb hby at_358) rfl (l' := #[.val (.int i0), .val (.int i1), .val (.int i2), .val (.int i3), .val (.int md), .val (.int ps), .val (.int ch), .val (.ref b1), .val (.ref b2), .val (.ref b3), .val (.ref b4), .val (.ref b5), .val (.int (0 : Int32)), .unset, .unset]) rfl k') ?_
    refine Runs.st (fun t' k' => XS.iload X4_.here hx rfl (hb hby at_360) rfl k') ?_
    refine Runs.st (fun t' k' => XS.ifYes X4_.here hx rfl (pc0 := 362) (pc' := 371) rfl (hb hby at_362) rfl ((if0 _ _).trans (teq rfl).1) (by decide) (by decide) k') ?_
    show Runs p.tables e below _ (T4_.setTop (mkF m 371 #[.val (.int i0), .val (.int i1), .val (.int i2), .val (.int i3), .val (.int md), .val (.int ps), .val (.int ch), .val (.ref b1), .val (.ref b2), .val (.ref b3), .val (.ref b4), .val (.ref b5), .val (.int (0 : Int32)), .unset, .unset] []))
    obtain ⟨T29_, X29_, e29_, st29_⟩ := getS2 X4_ hx hZ hown (host := "") (Or.inl (hw _ (List.mem_of_getElem? (i := 86) rfl))) Via.refl e4_ (S1.ext old.2) (g := (mkF m 371 #[.val (.int i0), .val (.int i1), .val (.int i2), .val (.int i3), .val (.int md), .val (.int ps), .val (.int ch), .val (.ref b1), .val (.ref b2), .val (.ref b3), .val (.ref b4), .val (.ref b5), .val (.int (0 : Int32)), .unset, .unset] [])) rfl (hb hby at_371)
    refine Runs.st (st29_) ?_
    show Runs p.tables e below _ (T29_.setTop (mkF m 374 #[.val (.int i0), .val (.int i1), .val (.int i2), .val (.int i3), .val (.int md), .val (.int ps), .val (.int ch), .val (.ref b1), .val (.ref b2), .val (.ref b3), .val (.ref b4), .val (.ref b5), .val (.int (0 : Int32)), .unset, .unset] [(.ref om)]))
    refine Runs.st (fun t' k' => XS.astore X29_.here hx rfl (hb hby at_374) rfl rfl (l' := #[.val (.int i0), .val (.int i1), .val (.int i2), .val (.int i3), .val (.int md), .val (.int ps), .val (.int ch), .val (.ref b1), .val (.ref b2), .val (.ref b3), .val (.ref b4), .val (.ref b5), .val (.int (0 : Int32)), .val (.ref om), .unset]) rfl k') ?_
    refine Runs.st (fun t' k' => XS.aload X29_.here hx rfl (hb hby at_376) rfl rfl k') ?_
    obtain ⟨_, _, ⟨T30_, L30_, k30_, n30_⟩, -, X30_, ⟨Lc30_, hQ30_, l30_, y30_, z30_⟩, st30_⟩ := Jvm.LawKit.callS X29_ hx (y := (⟨"com/example/standing_order/standingorder/api/InstanceForm", "ofEngine", "(Ljava/lang/String;)Lcom/example/standing_order/standingorder/api/InstanceForm;"⟩ : MethodName)) hown (mvT hZ (hw _ (List.mem_of_getElem? (i := 66) rfl))) (mvT hZ (hw _ (List.mem_of_getElem? (i := 67) rfl))) (mvT hZ (hw _ (List.mem_of_getElem? (i := 64) rfl))) (mvT hZ (hw _ (List.mem_of_getElem? (i := 68) rfl))) (by decide) (backOf (W := 0) (rmO0 l Z a0 hw [] b5 oe om s0 zc b6 v0 kb6 kv0 (nar .byte (c0.toInt8.toInt32)) (nar .byte (c1.toInt8.toInt32)) (nar .byte (c2.toInt8.toInt32)) (nar .byte (c3.toInt8.toInt32)) (nar .byte (c4.toInt8.toInt32)) T2_.heap n0 sz (S0.ext old.2) (S1.ext old.2) (Fs0.ext old.2) (Ne.symm (old.ne Es0.lt g_b5)) (Sc.ext old.2) hzc E_b5 Fc_b5 Fv_b5 (Es0.ext old.2) (Fc0.ext old.2) (Fv0.ext old.2) V_b6 (V0.ext old.2) (fun q => d0 ((own_bl c0 _ r0 (by decide)).mp q))) hZ (hw _ (List.mem_of_getElem? (i := 68) rfl)) (hw _ (List.mem_of_getElem? (i := 64) rfl)) (by decide) (by decide)) (g := (mkF m 378 #[.val (.int i0), .val (.int i1), .val (.int i2), .val (.int i3), .val (.int md), .val (.int ps), .val (.int ch), .val (.ref b1), .val (.ref b2), .val (.ref b3), .val (.ref b4), .val (.ref b5), .val (.int (0 : Int32)), .val (.ref om), .unset] [(.ref b5)])) rfl (by rw [hml]; rfl) (argsL := [(.ref b5)]) (rest := []) (lenOf pd__28Ljava_2flang_2fString_3b_29Lcom_2fexample_2fstanding_order_2fstandingorder_2fapi_2fInstanceForm_3b rfl) rfl (by show 2 * 0 + _ ≤ _; exact Nat.le_of_eq rfl) (hb hby at_378) (fun _ _ => ⟨rfl, e29_, (by decide : 6 + 0 ≤ _), (by decide : 24 + 0 ≤ _)⟩)
    dsimp only [Pt.U, Pt.locs, Pt.cells, Pt.slots] at X30_ l30_ y30_ z30_ st30_ hQ30_
    subst l30_ y30_ z30_
    obtain ⟨rfl, N30_q, e30_⟩ := hQ30_
    have N30_ := Fr.app N4_ N30_q
    refine Runs.st (st30_) ?_
    replace X30_ := wider X30_ (c' := 6) (s' := 24) (by decide) (by decide)
    show Runs p.tables e below _ (T30_.setTop (mkF m 381 #[.val (.int i0), .val (.int i1), .val (.int i2), .val (.int i3), .val (.int md), .val (.int ps), .val (.int ch), .val (.ref b1), .val (.ref b2), .val (.ref b3), .val (.ref b4), .val (.ref b5), .val (.int (0 : Int32)), .val (.ref om), .unset] [(.ref om)]))
    refine Runs.st (fun t' k' => XS.astore X30_.here hx rfl (hb hby at_381) rfl rfl (l' := #[.val (.int i0), .val (.int i1), .val (.int i2), .val (.int i3), .val (.int md), .val (.int ps), .val (.int ch), .val (.ref b1), .val (.ref b2), .val (.ref b3), .val (.ref b4), .val (.ref b5), .val (.int (0 : Int32)), .val (.ref om), .val (.ref om)]) rfl k') ?_
    refine Runs.st (fun t' k' => XS.aload X30_.here hx rfl (hb hby at_383) rfl rfl k') ?_
    refine Runs.st (fun t' k' => XS.aload X30_.here hx rfl (hb hby at_385) rfl rfl k') ?_
    refine Runs.st (fun t' k' => Jvm.RoadKit.acmp (g := (mkF m 387 #[.val (.int i0), .val (.int i1), .val (.int i2), .val (.int i3), .val (.int md), .val (.int ps), .val (.int ch), .val (.ref b1), .val (.ref b2), .val (.ref b3), .val (.ref b4), .val (.ref b5), .val (.int (0 : Int32)), .val (.ref om), .val (.ref om)] [(.ref om), (.ref om)])) X30_ hx rfl rfl rfl (pc0 := 387) (pc' := 390) (same := true) rfl (hb hby at_387) rfl (decide_eq_true rfl) (by decide) (by decide) k') ?_
    show Runs p.tables e below _ (T30_.setTop (mkF m 390 #[.val (.int i0), .val (.int i1), .val (.int i2), .val (.int i3), .val (.int md), .val (.int ps), .val (.int ch), .val (.ref b1), .val (.ref b2), .val (.ref b3), .val (.ref b4), .val (.ref b5), .val (.int (0 : Int32)), .val (.ref om), .val (.ref om)] []))
    refine Runs.st (fun t' k' => XS.aload X30_.here hx rfl (hb hby at_390) rfl rfl k') ?_
    obtain ⟨cq31_, kq31_, q31_a, q31_b, q31_c⟩ := isOf hZ e30_ (E1.ext old.2)
    obtain ⟨_, _, ⟨T31_, L31_, k31_, n31_⟩, -, X31_, ⟨Lc31_, hQ31_, l31_, y31_, z31_⟩, st31_⟩ := X30_.virtualBack hx (y := (⟨"com/example/standing_order/standingorder/api/InstanceForm", "engine", "()Ljava/lang/String;"⟩ : MethodName)) (z := (⟨"com/example/standing_order/standingorder/api/InstanceForm", "engine", "()Ljava/lang/String;"⟩ : MethodName)) hown (mvT hZ (hw _ (List.mem_of_getElem? (i := 81) rfl))) (mvT hZ (hw _ (List.mem_of_getElem? (i := 82) rfl))) (notFace_of_selects (args := #[]) (mvT hZ (hw _ (List.mem_of_getElem? (i := 84) rfl)))) (mvT hZ (hw _ (List.mem_of_getElem? (i := 84) rfl))) (mvT hZ (hw _ (List.mem_of_getElem? (i := 83) rfl))) (by decide) (backOf (W := 0) (rmEng l Z a0 hw [] om s1 T2_.heap n0 sz (Fs1.ext old.2)) hZ (hw _ (List.mem_of_getElem? (i := 85) rfl)) (hw _ (List.mem_of_getElem? (i := 64) rfl)) (by decide) (by decide)) q31_a q31_c (g := (mkF m 392 #[.val (.int i0), .val (.int i1), .val (.int i2), .val (.int i3), .val (.int md), .val (.int ps), .val (.int ch), .val (.ref b1), .val (.ref b2), .val (.ref b3), .val (.ref b4), .val (.ref b5), .val (.int (0 : Int32)), .val (.ref om), .val (.ref om)] [(.ref om)])) rfl (by rw [hml]; rfl) (Steps.refl _) (argsL := []) (rest := []) (lenOf pd__28_29Ljava_2flang_2fString_3b rfl) rfl (by show 2 * 0 + _ ≤ _; exact Nat.le_of_eq rfl) (hb hby at_392) (fun _ _ => ⟨rfl, e30_, (by decide : 6 + 0 ≤ _), (by decide : 24 + 0 ≤ _)⟩)
    dsimp only [Pt.U, Pt.locs, Pt.cells, Pt.slots] at X31_ l31_ y31_ z31_ st31_ hQ31_
    subst l31_ y31_ z31_
    obtain ⟨rfl, N31_q, e31_⟩ := hQ31_
    have N31_ := Fr.app N30_ N31_q
    refine Runs.tr st31_ ?_
    replace X31_ := wider X31_ (c' := 6) (s' := 24) (by decide) (by decide)
    show Runs p.tables e below _ (T31_.setTop (mkF m 395 #[.val (.int i0), .val (.int i1), .val (.int i2), .val (.int i3), .val (.int md), .val (.int ps), .val (.int ch), .val (.ref b1), .val (.ref b2), .val (.ref b3), .val (.ref b4), .val (.ref b5), .val (.int (0 : Int32)), .val (.ref om), .val (.ref om)] [(.ref s1)]))
    obtain ⟨_, _, ⟨T32_, L32_, k32_, n32_⟩, -, X32_, ⟨Lc32_, hQ32_, l32_, y32_, z32_⟩, st32_⟩ := Jvm.LawKit.callS X31_ hx (y := (⟨"com/example/standing_order/standingorder/api/InstanceForm", "ofEngine", "(Ljava/lang/String;)Lcom/example/standing_order/standingorder/api/InstanceForm;"⟩ : MethodName)) hown (mvT hZ (hw _ (List.mem_of_getElem? (i := 66) rfl))) (mvT hZ (hw _ (List.mem_of_getElem? (i := 67) rfl))) (mvT hZ (hw _ (List.mem_of_getElem? (i := 64) rfl))) (mvT hZ (hw _ (List.mem_of_getElem? (i := 68) rfl))) (by decide) (backOf (W := 0) (rmON l Z a0 hw [] s1 oe om s0 zc v1 v0 kv1 kv0 (7 : Int32) _ T2_.heap n0 sz (S0.ext old.2) (S1.ext old.2) (Fs0.ext old.2) hs10 (Sc.ext old.2) hzc (Es1.ext old.2) (Fc1.ext old.2) (Fv1.ext old.2) (Es0.ext old.2) (Fc0.ext old.2) (Fv0.ext old.2) (V1.ext old.2) (V0.ext old.2) (by decide)) hZ (hw _ (List.mem_of_getElem? (i := 68) rfl)) (hw _ (List.mem_of_getElem? (i := 64) rfl)) (by decide) (by decide)) (g := (mkF m 395 #[.val (.int i0), .val (.int i1), .val (.int i2), .val (.int i3), .val (.int md), .val (.int ps), .val (.int ch), .val (.ref b1), .val (.ref b2), .val (.ref b3), .val (.ref b4), .val (.ref b5), .val (.int (0 : Int32)), .val (.ref om), .val (.ref om)] [(.ref s1)])) rfl (by rw [hml]; rfl) (argsL := [(.ref s1)]) (rest := []) (lenOf pd__28Ljava_2flang_2fString_3b_29Lcom_2fexample_2fstanding_order_2fstandingorder_2fapi_2fInstanceForm_3b rfl) rfl (by show 2 * 0 + _ ≤ _; exact Nat.le_of_eq rfl) (hb hby at_395) (fun _ _ => ⟨rfl, e31_, (by decide : 6 + 0 ≤ _), (by decide : 24 + 0 ≤ _)⟩)
    dsimp only [Pt.U, Pt.locs, Pt.cells, Pt.slots] at X32_ l32_ y32_ z32_ st32_ hQ32_
    subst l32_ y32_ z32_
    obtain ⟨rfl, N32_q, e32_⟩ := hQ32_
    have N32_ := Fr.app N31_ N32_q
    refine Runs.st (st32_) ?_
    replace X32_ := wider X32_ (c' := 6) (s' := 24) (by decide) (by decide)
    show Runs p.tables e below _ (T32_.setTop (mkF m 398 #[.val (.int i0), .val (.int i1), .val (.int i2), .val (.int i3), .val (.int md), .val (.int ps), .val (.int ch), .val (.ref b1), .val (.ref b2), .val (.ref b3), .val (.ref b4), .val (.ref b5), .val (.int (0 : Int32)), .val (.ref om), .val (.ref om)] [(.ref om)]))
    refine Runs.st (fun t' k' => XS.aload X32_.here hx rfl (hb hby at_398) rfl rfl k') ?_
    refine Runs.st (fun t' k' => Jvm.RoadKit.acmp (g := (mkF m 400 #[.val (.int i0), .val (.int i1), .val (.int i2), .val (.int i3), .val (.int md), .val (.int ps), .val (.int ch), .val (.ref b1), .val (.ref b2), .val (.ref b3), .val (.ref b4), .val (.ref b5), .val (.int (0 : Int32)), .val (.ref om), .val (.ref om)] [(.ref om), (.ref om)])) X32_ hx rfl rfl rfl (pc0 := 400) (pc' := 403) (same := true) rfl (hb hby at_400) rfl (decide_eq_true rfl) (by decide) (by decide) k') ?_
    show Runs p.tables e below _ (T32_.setTop (mkF m 403 #[.val (.int i0), .val (.int i1), .val (.int i2), .val (.int i3), .val (.int md), .val (.int ps), .val (.int ch), .val (.ref b1), .val (.ref b2), .val (.ref b3), .val (.ref b4), .val (.ref b5), .val (.int (0 : Int32)), .val (.ref om), .val (.ref om)] []))
    refine Runs.st (fun t' k' => XS.iconst X32_.here hx rfl (hb hby at_403) k') ?_
    refine Runs.st (fun t' k' => XS.goto X32_.here hx rfl (pc0 := 404) (pc' := 408) rfl (hb hby at_404) (by decide) (by decide) k') ?_
    refine Runs.retW (s := s) (vm₁ := vm0) X32_ hS (by rw [e32_]; exact hk) hlk (v := (some (.int (1 : Int32)))) (fun h => by rw [hret] at h; cases h) (by decide) (by decide) ?_ (fun fs hr => retN X32_ hx (t := .boolean) hret (by simp) (hb hby at_408) hr)
    try rw [e32_]
    exact ⟨rfl, N32_⟩
theorem pn_com_example_standing_order_standingorder_api_InstanceFormOfEnginePinLaw : plainName "com/example/standing_order/standingorder/api/InstanceFormOfEnginePinLaw" = true := by first | (simp [plainName, overriddenIn]; done) | decide +kernel
theorem ef_0_IIII (m : MethodId) (x0 : Int32) (x1 : Int32) (x2 : Int32) (x3 : Int32)  : entryFrame m #[(.int x0), (.int x1), (.int x2), (.int x3)] maxLocals = mkF m 0 #[.val (.int x0), .val (.int x1), .val (.int x2), .val (.int x3), .unset, .unset, .unset, .unset, .unset, .unset, .unset, .unset, .unset, .unset, .unset] [] := by first | (simp [entryFrame, mkF, argsToLocals, Value.category, maxLocals]; done) | rfl
theorem pd__28C_29Ljava_2flang_2fString_3b : parseMethodDescriptor "(C)Ljava/lang/String;" = some ⟨[.char], some (.object "java/lang/String")⟩ := by decide +kernel
set_option maxRecDepth 65536 in
set_option maxHeartbeats 40000000 in
theorem rm0 (l : Launch) (Z : State) (a0 : Array Value) (hw : ∀ d ∈ tables_1, d.before a0 Z = true) (ws : List Jvm.Cond) (i0 : Int32) (i1 : Int32) (i2 : Int32) (i3 : Int32) (oe om s0 s1 v0 v1 : Addr) (kv0 kv1 : ClassId) (zc : Int32) (fm : Value) (h0 : Heap) (n0 : Nat) (Z0 : n0 ≤ h0.size) (old : Old Z n0 h0) (Sc : Sta Z Z.heap "java/lang/String" "COMPACT_STRINGS" "Z" (.int zc)) (hzc : ¬ zc = 0) (Sf : Sta Z Z.heap "jdk/internal/util/Preconditions" "SIOOBE_FORMATTER" "Ljava/util/function/BiFunction;" fm) (hfm : fm.isRef = true) (hs10 : s1 ≠ s0) (S0 : Sta Z Z.heap "com/example/standing_order/standingorder/api/InstanceForm" "REDIS" "Lcom/example/standing_order/standingorder/api/InstanceForm;" (.ref oe)) (E0 : Exa Z Z.heap oe "com/example/standing_order/standingorder/api/InstanceForm") (Fs0 : Fld Z Z.heap oe "com/example/standing_order/standingorder/api/InstanceForm" "engine" "Ljava/lang/String;" (.ref s0)) (Es0 : Exa Z Z.heap s0 "java/lang/String") (Fc0 : Fld Z Z.heap s0 "java/lang/String" "coder" "B" (.int (0 : Int32))) (Fv0 : Fld Z Z.heap s0 "java/lang/String" "value" "[B" (.ref v0)) (V0 : Arv Z Z.heap v0 kv0 .byte (5 : Int32) [(.int (82 : Int32)), (.int (101 : Int32)), (.int (100 : Int32)), (.int (105 : Int32)), (.int (115 : Int32))] (.int (0 : Int32))) (S1 : Sta Z Z.heap "com/example/standing_order/standingorder/api/InstanceForm" "MONGODB" "Lcom/example/standing_order/standingorder/api/InstanceForm;" (.ref om)) (E1 : Exa Z Z.heap om "com/example/standing_order/standingorder/api/InstanceForm") (Fs1 : Fld Z Z.heap om "com/example/standing_order/standingorder/api/InstanceForm" "engine" "Ljava/lang/String;" (.ref s1)) (Es1 : Exa Z Z.heap s1 "java/lang/String") (Fc1 : Fld Z Z.heap s1 "java/lang/String" "coder" "B" (.int (0 : Int32))) (Fv1 : Fld Z Z.heap s1 "java/lang/String" "value" "[B" (.ref v1)) (V1 : Arv Z Z.heap v1 kv1 .byte (7 : Int32) [(.int (77 : Int32)), (.int (111 : Int32)), (.int (110 : Int32)), (.int (103 : Int32)), (.int (111 : Int32)), (.int (68 : Int32)), (.int (66 : Int32))] (.int (0 : Int32))) (hn0 : n0 = h0.size) (hEL : EW Z a0 [("java/lang/String", 7)]) (hC0 : CHv Z [("java/lang/String", 7)] Z.vm Z.heap) :
    MetFree l x (head1 (Jvm.Cond.code x code maxLocals ret :: ws) room_1) (fun ar_ U => ar_ = #[(.int i0), (.int i1), (.int i2), (.int i3)] ∧ U = Z ∧ U.heap = h0) (fun _ _ _ _ _ => True) (fun _ U o U' => PhiW U (fun v h L => v = some (.int 1) ∧ Fr n0 L) room_1.cells room_1.slots o U') := by
  refine MetFree.of_bodySF (plainFor_of_name pn_com_example_standing_order_standingorder_api_InstanceFormOfEnginePinLaw) hisR ?_
  intro p e s m args below meth c s₁ Bd hml0 hP hK
  obtain ⟨rfl, hsZ, hh⟩ := hP
  have hZ : Z.Warmed39 s.vm := hsZ ▸ State.Warmed39.refl _
  have hkeep : ∀ (b : Addr) (cl : Cell), Z.heap[b]? = some cl → s.heap[b]? = some cl := fun b cl q => by rw [hsZ]; exact q
  have IB0 : IB Z s.vm [] := by rw [hsZ]; exact IB.start
  have hsn : n0 = s.heap.size := hn0.trans (congrArg Array.size hh.symm)
  have hS : s.Since s.vm h0.size := (State.WarmedH.refl s).since _
  have hk := Nat.le_refl h0.size
  have hZ0 := hZ
  have hx := Bd.exec
  have hby := Bd.bytes
  have hlk := Bd.notSynchronized
  have hml : c.maxLocals = 15 := hml0
  have hown : s.vm.findClass "com/example/standing_order/standingorder/api/InstanceFormOfEnginePinLaw" = some m.cls := findClass_of_methodNamed Bd.named
  have hown0 := hown
  have hnm := (name_of_methodNamed Bd.named Bd.method).1
  have hret := Bd.returns
  have X0 : Stand p l e room_1 s m #[(.int i0), (.int i1), (.int i2), (.int i3)] below meth c s₁ [] 0 0 := Stand.of_body Bd
  have e0 : s₁.heap = h0 := by rw [← hh, Bd.state]; rfl
  have N0 := Fr.nil n0
  have sz := Z0
  have K := Keep.refl h0 []
  show Runs p.tables e below (PhiW s (fun v h L => v = some (.int 1) ∧ Fr n0 L) room_1.cells room_1.slots) _
  refine Runs.st (fun t' k' => castTop (ef_0_IIII m i0 i1 i2 i3 ) k') ?_
  show Runs p.tables e below _ (s₁.setTop (mkF m 0 #[.val (.int i0), .val (.int i1), .val (.int i2), .val (.int i3), .unset, .unset, .unset, .unset, .unset, .unset, .unset, .unset, .unset, .unset, .unset] []))
  refine Runs.st (fun t' k' => XS.iloadN X0.here hx rfl (hb hby at_0) rfl k') ?_
  refine Runs.st (fun t' k' => XS.iconst X0.here hx rfl (hb hby at_1) k') ?_
  refine Runs.st (fun t' k' => XS.iand X0.here hx rfl (hb hby at_2) rfl k') ?_
  show Runs p.tables e below _ (s₁.setTop (mkF m 3 #[.val (.int i0), .val (.int i1), .val (.int i2), .val (.int i3), .unset, .unset, .unset, .unset, .unset, .unset, .unset, .unset, .unset, .unset, .unset] [(.int (i0 &&& (3 : Int32)))]))
  obtain ⟨md, hmd⟩ : ∃ z : Int32, z = (i0 &&& (3 : Int32)) := ⟨_, rfl⟩
  rw [← hmd]
  show Runs p.tables e below _ (s₁.setTop (mkF m 3 #[.val (.int i0), .val (.int i1), .val (.int i2), .val (.int i3), .unset, .unset, .unset, .unset, .unset, .unset, .unset, .unset, .unset, .unset, .unset] [(.int md)]))
  refine Runs.st (fun t' k' => XS.istore X0.here hx rfl (hb hby at_3) rfl (l' := #[.val (.int i0), .val (.int i1), .val (.int i2), .val (.int i3), .val (.int md), .unset, .unset, .unset, .unset, .unset, .unset, .unset, .unset, .unset, .unset]) rfl k') ?_
  refine Runs.st (fun t' k' => XS.iloadN X0.here hx rfl (hb hby at_5) rfl k') ?_
  show Runs p.tables e below _ (s₁.setTop (mkF m 6 #[.val (.int i0), .val (.int i1), .val (.int i2), .val (.int i3), .val (.int md), .unset, .unset, .unset, .unset, .unset, .unset, .unset, .unset, .unset, .unset] [(.int i1)]))
  refine Runs.st (fun t' k' => X0.ldcInt hx hown (mvT hZ (hw _ (List.mem_of_getElem? (i := 0) rfl))) (g := (mkF m 6 #[.val (.int i0), .val (.int i1), .val (.int i2), .val (.int i3), .val (.int md), .unset, .unset, .unset, .unset, .unset, .unset, .unset, .unset, .unset, .unset] [(.int i1)])) rfl (hb hby at_6) t' k') ?_
  refine Runs.st (fun t' k' => XS.iand X0.here hx rfl (hb hby at_8) rfl k') ?_
  refine Runs.st (fun t' k' => XS.iconst X0.here hx rfl (hb hby at_9) k') ?_
  refine Runs.st (fun t' k' => iremM X0 hx rfl (hb hby at_10) rfl (by decide) k') ?_
  show Runs p.tables e below _ (s₁.setTop (mkF m 11 #[.val (.int i0), .val (.int i1), .val (.int i2), .val (.int i3), .val (.int md), .unset, .unset, .unset, .unset, .unset, .unset, .unset, .unset, .unset, .unset] [(.int ((i1 &&& (2147483647 : Int32)) % (5 : Int32)))]))
  obtain ⟨ps, hps⟩ : ∃ z : Int32, z = ((i1 &&& (2147483647 : Int32)) % (5 : Int32)) := ⟨_, rfl⟩
  rw [← hps]
  show Runs p.tables e below _ (s₁.setTop (mkF m 11 #[.val (.int i0), .val (.int i1), .val (.int i2), .val (.int i3), .val (.int md), .unset, .unset, .unset, .unset, .unset, .unset, .unset, .unset, .unset, .unset] [(.int ps)]))
  refine Runs.st (fun t' k' => XS.istore X0.here hx rfl (hb hby at_11) rfl (l' := #[.val (.int i0), .val (.int i1), .val (.int i2), .val (.int i3), .val (.int md), .val (.int ps), .unset, .unset, .unset, .unset, .unset, .unset, .unset, .unset, .unset]) rfl k') ?_
  show Runs p.tables e below _ (s₁.setTop (mkF m 13 #[.val (.int i0), .val (.int i1), .val (.int i2), .val (.int i3), .val (.int md), .val (.int ps), .unset, .unset, .unset, .unset, .unset, .unset, .unset, .unset, .unset] []))
  refine Runs.st (fun t' k' => XS.iloadN X0.here hx rfl (hb hby at_13) rfl k') ?_
  refine Runs.st (fun t' k' => XS.sipush X0.here hx rfl (hb hby at_14) k') ?_
  refine Runs.st (fun t' k' => XS.iand X0.here hx rfl (hb hby at_17) rfl k') ?_
  refine Runs.st (fun t' k' => XS.i2c X0.here hx rfl (hb hby at_18) rfl k') ?_
  show Runs p.tables e below _ (s₁.setTop (mkF m 19 #[.val (.int i0), .val (.int i1), .val (.int i2), .val (.int i3), .val (.int md), .val (.int ps), .unset, .unset, .unset, .unset, .unset, .unset, .unset, .unset, .unset] [(.int ((i2 &&& (255 : Int32)).toUInt32.toUInt16.toUInt32.toInt32))]))
  obtain ⟨ch, hch⟩ : ∃ z : Int32, z = ((i2 &&& (255 : Int32)).toUInt32.toUInt16.toUInt32.toInt32) := ⟨_, rfl⟩
  rw [← hch]
  show Runs p.tables e below _ (s₁.setTop (mkF m 19 #[.val (.int i0), .val (.int i1), .val (.int i2), .val (.int i3), .val (.int md), .val (.int ps), .unset, .unset, .unset, .unset, .unset, .unset, .unset, .unset, .unset] [(.int ch)]))
  have rch : 0 ≤ ch.toInt ∧ ch.toInt ≤ 255 := hch ▸ own_i2c i2
  have hmode : md = 0 ∨ md = 1 ∨ md = 2 ∨ md = 3 := by
    have a : (i0 &&& (3 : Int32)).toInt = i0.toInt % 2 ^ 2 := Jvm.Kit.i32_mask i0 3 (k := 2) (by decide) (by decide)
    rw [← Int32.toInt_inj, ← Int32.toInt_inj, ← Int32.toInt_inj, ← Int32.toInt_inj, hmd, a]
    change _ = (0 : Int) ∨ _ = (1 : Int) ∨ _ = (2 : Int) ∨ _ = (3 : Int)
    omega
  have hpos : ps = 0 ∨ ps = 1 ∨ ps = 2 ∨ ps = 3 ∨ ps = 4 := by
    have a : (i1 &&& (2147483647 : Int32)).toInt = i1.toInt % 2 ^ 31 := Jvm.Kit.i32_mask i1 2147483647 (k := 31) (by decide) (by decide)
    have b := (c_irem (i1 &&& (2147483647 : Int32)) (5 : Int32) 5 rfl).1 (by omega)
    rw [← Int32.toInt_inj, ← Int32.toInt_inj, ← Int32.toInt_inj, ← Int32.toInt_inj, ← Int32.toInt_inj, hps, b]
    change _ = (0 : Int) ∨ _ = (1 : Int) ∨ _ = (2 : Int) ∨ _ = (3 : Int) ∨ _ = (4 : Int)
    omega
  refine Runs.st (fun t' k' => XS.istore X0.here hx rfl (hb hby at_19) rfl (l' := #[.val (.int i0), .val (.int i1), .val (.int i2), .val (.int i3), .val (.int md), .val (.int ps), .val (.int ch), .unset, .unset, .unset, .unset, .unset, .unset, .unset, .unset]) rfl k') ?_
  show Runs p.tables e below _ (s₁.setTop (mkF m 21 #[.val (.int i0), .val (.int i1), .val (.int i2), .val (.int i3), .val (.int md), .val (.int ps), .val (.int ch), .unset, .unset, .unset, .unset, .unset, .unset, .unset, .unset] []))
  refine Runs.st (fun t' k' => XS.iconst X0.here hx rfl (hb hby at_21) k') ?_
  obtain ⟨T1_, h1_, k1_, X1_, e1_, E1_, A1_, st1_⟩ := newP X0 hx hZ (hw _ (List.mem_of_getElem? (i := 1) rfl)) e0 (g := (mkF m 22 #[.val (.int i0), .val (.int i1), .val (.int i2), .val (.int i3), .val (.int md), .val (.int ps), .val (.int ch), .unset, .unset, .unset, .unset, .unset, .unset, .unset, .unset] [(.int (5 : Int32))])) rfl (hb hby at_22) rfl (by decide) (cap := 5) (by decide) (by decide) (by decide) (by decide)
  refine Runs.st (st1_) ?_
  obtain ⟨b1, g1_⟩ : ∃ z, z = h0.size := ⟨_, rfl⟩
  rw [← g1_] at A1_
  try rw [← g1_]
  have g_b1 : n0 ≤ b1 := Nat.le_trans sz (Nat.le_of_eq g1_.symm)
  have sz_b1 : h0.size ≤ b1 := Nat.le_trans K.1 (Nat.le_of_eq g1_.symm)
  replace old := old.ext E1_
  replace sz := Nat.le_trans sz E1_.1
  replace K := K.ext E1_
  replace hk := Nat.le_trans hk E1_.1
  have V_b1 : Arv Z h1_ b1 k1_ .char (5 : Int32) [(.int (0 : Int32)), (.int (0 : Int32)), (.int (0 : Int32)), (.int (0 : Int32)), (.int (0 : Int32))] (.int (0 : Int32)) := (Arv.new A1_ (by decide)).pad (pad_rep [] (.int (0 : Int32)) 5)
  show Runs p.tables e below _ (T1_.setTop (mkF m 24 #[.val (.int i0), .val (.int i1), .val (.int i2), .val (.int i3), .val (.int md), .val (.int ps), .val (.int ch), .unset, .unset, .unset, .unset, .unset, .unset, .unset, .unset] [(.ref b1)]))
  refine Runs.st (fun t' k' => XS.dup X1_.here hx rfl (hb hby at_24) rfl rfl k') ?_
  refine Runs.st (fun t' k' => XS.iconst X1_.here hx rfl (hb hby at_25) k') ?_
  refine Runs.st (fun t' k' => XS.bipush X1_.here hx rfl (hb hby at_26) k') ?_
  obtain ⟨cl2_, Ar2_, q2_, S2_, M2_, Ha2_, G2_⟩ := V_b1
  have hin2_ : ¬ ((0 : Int32) < 0 ∨ cl2_.slots.size ≤ ((0 : Int32)).toNatClampNeg) := inb_of S2_ ⟨by decide, by decide⟩
  obtain ⟨T2_, h2_, X2_, e2_, W2_, st2_⟩ := stC X1_ hx hZ e1_ Ar2_ (j := (0 : Int32)) hin2_ (g := (mkF m 28 #[.val (.int i0), .val (.int i1), .val (.int i2), .val (.int i3), .val (.int md), .val (.int ps), .val (.int ch), .unset, .unset, .unset, .unset, .unset, .unset, .unset, .unset] [(.int (82 : Int32)), (.int (0 : Int32)), (.ref b1), (.ref b1)])) rfl rfl (hb hby at_28)
  refine Runs.st (st2_) ?_
  have V_b1 := Arv.set Ar2_ q2_ S2_ M2_ Ha2_ G2_ (fits_nar_char _) W2_ 0 rfl (Nat.le_of_ble_eq_true rfl)
  replace old := old.wr W2_ g_b1
  replace sz := Nat.le_trans sz (Keep.of_wr W2_).1
  replace hk := Nat.le_trans hk (Keep.of_wr W2_).1
  have N2_ := Fr.snoc X2_ N0 g_b1
  replace K := K.wr W2_ (Or.inr sz_b1)
  show Runs p.tables e below _ (T2_.setTop (mkF m 29 #[.val (.int i0), .val (.int i1), .val (.int i2), .val (.int i3), .val (.int md), .val (.int ps), .val (.int ch), .unset, .unset, .unset, .unset, .unset, .unset, .unset, .unset] [(.ref b1)]))
  refine Runs.st (fun t' k' => XS.dup X2_.here hx rfl (hb hby at_29) rfl rfl k') ?_
  refine Runs.st (fun t' k' => XS.iconst X2_.here hx rfl (hb hby at_30) k') ?_
  refine Runs.st (fun t' k' => XS.bipush X2_.here hx rfl (hb hby at_31) k') ?_
  obtain ⟨cl3_, Ar3_, q3_, S3_, M3_, Ha3_, G3_⟩ := V_b1
  have hin3_ : ¬ ((1 : Int32) < 0 ∨ cl3_.slots.size ≤ ((1 : Int32)).toNatClampNeg) := inb_of S3_ ⟨by decide, by decide⟩
  obtain ⟨T3_, h3_, X3_, e3_, W3_, st3_⟩ := stC X2_ hx hZ e2_ Ar3_ (j := (1 : Int32)) hin3_ (g := (mkF m 33 #[.val (.int i0), .val (.int i1), .val (.int i2), .val (.int i3), .val (.int md), .val (.int ps), .val (.int ch), .unset, .unset, .unset, .unset, .unset, .unset, .unset, .unset] [(.int (101 : Int32)), (.int (1 : Int32)), (.ref b1), (.ref b1)])) rfl rfl (hb hby at_33)
  refine Runs.st (st3_) ?_
  have V_b1 := Arv.set Ar3_ q3_ S3_ M3_ Ha3_ G3_ (fits_nar_char _) W3_ 1 rfl (Nat.le_of_ble_eq_true rfl)
  replace old := old.wr W3_ g_b1
  replace sz := Nat.le_trans sz (Keep.of_wr W3_).1
  replace hk := Nat.le_trans hk (Keep.of_wr W3_).1
  have N3_ := Fr.snoc X3_ N2_ g_b1
  replace K := K.wr W3_ (Or.inr sz_b1)
  show Runs p.tables e below _ (T3_.setTop (mkF m 34 #[.val (.int i0), .val (.int i1), .val (.int i2), .val (.int i3), .val (.int md), .val (.int ps), .val (.int ch), .unset, .unset, .unset, .unset, .unset, .unset, .unset, .unset] [(.ref b1)]))
  refine Runs.st (fun t' k' => XS.dup X3_.here hx rfl (hb hby at_34) rfl rfl k') ?_
  refine Runs.st (fun t' k' => XS.iconst X3_.here hx rfl (hb hby at_35) k') ?_
  refine Runs.st (fun t' k' => XS.bipush X3_.here hx rfl (hb hby at_36) k') ?_
  obtain ⟨cl4_, Ar4_, q4_, S4_, M4_, Ha4_, G4_⟩ := V_b1
  have hin4_ : ¬ ((2 : Int32) < 0 ∨ cl4_.slots.size ≤ ((2 : Int32)).toNatClampNeg) := inb_of S4_ ⟨by decide, by decide⟩
  obtain ⟨T4_, h4_, X4_, e4_, W4_, st4_⟩ := stC X3_ hx hZ e3_ Ar4_ (j := (2 : Int32)) hin4_ (g := (mkF m 38 #[.val (.int i0), .val (.int i1), .val (.int i2), .val (.int i3), .val (.int md), .val (.int ps), .val (.int ch), .unset, .unset, .unset, .unset, .unset, .unset, .unset, .unset] [(.int (100 : Int32)), (.int (2 : Int32)), (.ref b1), (.ref b1)])) rfl rfl (hb hby at_38)
  refine Runs.st (st4_) ?_
  have V_b1 := Arv.set Ar4_ q4_ S4_ M4_ Ha4_ G4_ (fits_nar_char _) W4_ 2 rfl (Nat.le_of_ble_eq_true rfl)
  replace old := old.wr W4_ g_b1
  replace sz := Nat.le_trans sz (Keep.of_wr W4_).1
  replace hk := Nat.le_trans hk (Keep.of_wr W4_).1
  have N4_ := Fr.snoc X4_ N3_ g_b1
  replace K := K.wr W4_ (Or.inr sz_b1)
  show Runs p.tables e below _ (T4_.setTop (mkF m 39 #[.val (.int i0), .val (.int i1), .val (.int i2), .val (.int i3), .val (.int md), .val (.int ps), .val (.int ch), .unset, .unset, .unset, .unset, .unset, .unset, .unset, .unset] [(.ref b1)]))
  refine Runs.st (fun t' k' => XS.dup X4_.here hx rfl (hb hby at_39) rfl rfl k') ?_
  refine Runs.st (fun t' k' => XS.iconst X4_.here hx rfl (hb hby at_40) k') ?_
  refine Runs.st (fun t' k' => XS.bipush X4_.here hx rfl (hb hby at_41) k') ?_
  obtain ⟨cl5_, Ar5_, q5_, S5_, M5_, Ha5_, G5_⟩ := V_b1
  have hin5_ : ¬ ((3 : Int32) < 0 ∨ cl5_.slots.size ≤ ((3 : Int32)).toNatClampNeg) := inb_of S5_ ⟨by decide, by decide⟩
  obtain ⟨T5_, h5_, X5_, e5_, W5_, st5_⟩ := stC X4_ hx hZ e4_ Ar5_ (j := (3 : Int32)) hin5_ (g := (mkF m 43 #[.val (.int i0), .val (.int i1), .val (.int i2), .val (.int i3), .val (.int md), .val (.int ps), .val (.int ch), .unset, .unset, .unset, .unset, .unset, .unset, .unset, .unset] [(.int (105 : Int32)), (.int (3 : Int32)), (.ref b1), (.ref b1)])) rfl rfl (hb hby at_43)
  refine Runs.st (st5_) ?_
  have V_b1 := Arv.set Ar5_ q5_ S5_ M5_ Ha5_ G5_ (fits_nar_char _) W5_ 3 rfl (Nat.le_of_ble_eq_true rfl)
  replace old := old.wr W5_ g_b1
  replace sz := Nat.le_trans sz (Keep.of_wr W5_).1
  replace hk := Nat.le_trans hk (Keep.of_wr W5_).1
  have N5_ := Fr.snoc X5_ N4_ g_b1
  replace K := K.wr W5_ (Or.inr sz_b1)
  show Runs p.tables e below _ (T5_.setTop (mkF m 44 #[.val (.int i0), .val (.int i1), .val (.int i2), .val (.int i3), .val (.int md), .val (.int ps), .val (.int ch), .unset, .unset, .unset, .unset, .unset, .unset, .unset, .unset] [(.ref b1)]))
  refine Runs.st (fun t' k' => XS.dup X5_.here hx rfl (hb hby at_44) rfl rfl k') ?_
  refine Runs.st (fun t' k' => XS.iconst X5_.here hx rfl (hb hby at_45) k') ?_
  refine Runs.st (fun t' k' => XS.bipush X5_.here hx rfl (hb hby at_46) k') ?_
  obtain ⟨cl6_, Ar6_, q6_, S6_, M6_, Ha6_, G6_⟩ := V_b1
  have hin6_ : ¬ ((4 : Int32) < 0 ∨ cl6_.slots.size ≤ ((4 : Int32)).toNatClampNeg) := inb_of S6_ ⟨by decide, by decide⟩
  obtain ⟨T6_, h6_, X6_, e6_, W6_, st6_⟩ := stC X5_ hx hZ e5_ Ar6_ (j := (4 : Int32)) hin6_ (g := (mkF m 48 #[.val (.int i0), .val (.int i1), .val (.int i2), .val (.int i3), .val (.int md), .val (.int ps), .val (.int ch), .unset, .unset, .unset, .unset, .unset, .unset, .unset, .unset] [(.int (115 : Int32)), (.int (4 : Int32)), (.ref b1), (.ref b1)])) rfl rfl (hb hby at_48)
  refine Runs.st (st6_) ?_
  have V_b1 := Arv.set Ar6_ q6_ S6_ M6_ Ha6_ G6_ (fits_nar_char _) W6_ 4 rfl (Nat.le_of_ble_eq_true rfl)
  replace old := old.wr W6_ g_b1
  replace sz := Nat.le_trans sz (Keep.of_wr W6_).1
  replace hk := Nat.le_trans hk (Keep.of_wr W6_).1
  have N6_ := Fr.snoc X6_ N5_ g_b1
  replace K := K.wr W6_ (Or.inr sz_b1)
  show Runs p.tables e below _ (T6_.setTop (mkF m 49 #[.val (.int i0), .val (.int i1), .val (.int i2), .val (.int i3), .val (.int md), .val (.int ps), .val (.int ch), .unset, .unset, .unset, .unset, .unset, .unset, .unset, .unset] [(.ref b1)]))
  refine Runs.st (fun t' k' => XS.astore X6_.here hx rfl (hb hby at_49) rfl rfl (l' := #[.val (.int i0), .val (.int i1), .val (.int i2), .val (.int i3), .val (.int md), .val (.int ps), .val (.int ch), .val (.ref b1), .unset, .unset, .unset, .unset, .unset, .unset, .unset]) rfl k') ?_
  refine Runs.st (fun t' k' => XS.bipush X6_.here hx rfl (hb hby at_51) k') ?_
  obtain ⟨T7_, h7_, k7_, X7_, e7_, E7_, A7_, st7_⟩ := newP X6_ hx hZ (hw _ (List.mem_of_getElem? (i := 1) rfl)) e6_ (g := (mkF m 53 #[.val (.int i0), .val (.int i1), .val (.int i2), .val (.int i3), .val (.int md), .val (.int ps), .val (.int ch), .val (.ref b1), .unset, .unset, .unset, .unset, .unset, .unset, .unset] [(.int (6 : Int32))])) rfl (hb hby at_53) rfl (by decide) (cap := 6) (by decide) (by decide) (by decide) (by decide)
  refine Runs.st (st7_) ?_
  obtain ⟨b2, g7_⟩ : ∃ z, z = h6_.size := ⟨_, rfl⟩
  rw [← g7_] at A7_
  try rw [← g7_]
  have g_b2 : n0 ≤ b2 := Nat.le_trans sz (Nat.le_of_eq g7_.symm)
  have sz_b2 : h0.size ≤ b2 := Nat.le_trans K.1 (Nat.le_of_eq g7_.symm)
  have ne_b1_b2 : b1 ≠ b2 := Nat.ne_of_lt (Nat.lt_of_lt_of_le V_b1.lt (Nat.le_of_eq g7_.symm))
  replace old := old.ext E7_
  replace V_b1 := V_b1.ext E7_
  replace sz := Nat.le_trans sz E7_.1
  replace K := K.ext E7_
  replace hk := Nat.le_trans hk E7_.1
  have V_b2 : Arv Z h7_ b2 k7_ .char (6 : Int32) [(.int (0 : Int32)), (.int (0 : Int32)), (.int (0 : Int32)), (.int (0 : Int32)), (.int (0 : Int32)), (.int (0 : Int32))] (.int (0 : Int32)) := (Arv.new A7_ (by decide)).pad (pad_rep [] (.int (0 : Int32)) 6)
  show Runs p.tables e below _ (T7_.setTop (mkF m 55 #[.val (.int i0), .val (.int i1), .val (.int i2), .val (.int i3), .val (.int md), .val (.int ps), .val (.int ch), .val (.ref b1), .unset, .unset, .unset, .unset, .unset, .unset, .unset] [(.ref b2)]))
  refine Runs.st (fun t' k' => XS.dup X7_.here hx rfl (hb hby at_55) rfl rfl k') ?_
  refine Runs.st (fun t' k' => XS.iconst X7_.here hx rfl (hb hby at_56) k') ?_
  refine Runs.st (fun t' k' => XS.bipush X7_.here hx rfl (hb hby at_57) k') ?_
  obtain ⟨cl8_, Ar8_, q8_, S8_, M8_, Ha8_, G8_⟩ := V_b2
  have hin8_ : ¬ ((0 : Int32) < 0 ∨ cl8_.slots.size ≤ ((0 : Int32)).toNatClampNeg) := inb_of S8_ ⟨by decide, by decide⟩
  obtain ⟨T8_, h8_, X8_, e8_, W8_, st8_⟩ := stC X7_ hx hZ e7_ Ar8_ (j := (0 : Int32)) hin8_ (g := (mkF m 59 #[.val (.int i0), .val (.int i1), .val (.int i2), .val (.int i3), .val (.int md), .val (.int ps), .val (.int ch), .val (.ref b1), .unset, .unset, .unset, .unset, .unset, .unset, .unset] [(.int (82 : Int32)), (.int (0 : Int32)), (.ref b2), (.ref b2)])) rfl rfl (hb hby at_59)
  refine Runs.st (st8_) ?_
  have V_b2 := Arv.set Ar8_ q8_ S8_ M8_ Ha8_ G8_ (fits_nar_char _) W8_ 0 rfl (Nat.le_of_ble_eq_true rfl)
  replace old := old.wr W8_ g_b2
  replace V_b1 := V_b1.other W8_ ne_b1_b2
  replace sz := Nat.le_trans sz (Keep.of_wr W8_).1
  replace hk := Nat.le_trans hk (Keep.of_wr W8_).1
  have N8_ := Fr.snoc X8_ N6_ g_b2
  replace K := K.wr W8_ (Or.inr sz_b2)
  show Runs p.tables e below _ (T8_.setTop (mkF m 60 #[.val (.int i0), .val (.int i1), .val (.int i2), .val (.int i3), .val (.int md), .val (.int ps), .val (.int ch), .val (.ref b1), .unset, .unset, .unset, .unset, .unset, .unset, .unset] [(.ref b2)]))
  refine Runs.st (fun t' k' => XS.dup X8_.here hx rfl (hb hby at_60) rfl rfl k') ?_
  refine Runs.st (fun t' k' => XS.iconst X8_.here hx rfl (hb hby at_61) k') ?_
  refine Runs.st (fun t' k' => XS.bipush X8_.here hx rfl (hb hby at_62) k') ?_
  obtain ⟨cl9_, Ar9_, q9_, S9_, M9_, Ha9_, G9_⟩ := V_b2
  have hin9_ : ¬ ((1 : Int32) < 0 ∨ cl9_.slots.size ≤ ((1 : Int32)).toNatClampNeg) := inb_of S9_ ⟨by decide, by decide⟩
  obtain ⟨T9_, h9_, X9_, e9_, W9_, st9_⟩ := stC X8_ hx hZ e8_ Ar9_ (j := (1 : Int32)) hin9_ (g := (mkF m 64 #[.val (.int i0), .val (.int i1), .val (.int i2), .val (.int i3), .val (.int md), .val (.int ps), .val (.int ch), .val (.ref b1), .unset, .unset, .unset, .unset, .unset, .unset, .unset] [(.int (101 : Int32)), (.int (1 : Int32)), (.ref b2), (.ref b2)])) rfl rfl (hb hby at_64)
  refine Runs.st (st9_) ?_
  have V_b2 := Arv.set Ar9_ q9_ S9_ M9_ Ha9_ G9_ (fits_nar_char _) W9_ 1 rfl (Nat.le_of_ble_eq_true rfl)
  replace old := old.wr W9_ g_b2
  replace V_b1 := V_b1.other W9_ ne_b1_b2
  replace sz := Nat.le_trans sz (Keep.of_wr W9_).1
  replace hk := Nat.le_trans hk (Keep.of_wr W9_).1
  have N9_ := Fr.snoc X9_ N8_ g_b2
  replace K := K.wr W9_ (Or.inr sz_b2)
  show Runs p.tables e below _ (T9_.setTop (mkF m 65 #[.val (.int i0), .val (.int i1), .val (.int i2), .val (.int i3), .val (.int md), .val (.int ps), .val (.int ch), .val (.ref b1), .unset, .unset, .unset, .unset, .unset, .unset, .unset] [(.ref b2)]))
  refine Runs.st (fun t' k' => XS.dup X9_.here hx rfl (hb hby at_65) rfl rfl k') ?_
  refine Runs.st (fun t' k' => XS.iconst X9_.here hx rfl (hb hby at_66) k') ?_
  refine Runs.st (fun t' k' => XS.bipush X9_.here hx rfl (hb hby at_67) k') ?_
  obtain ⟨cl10_, Ar10_, q10_, S10_, M10_, Ha10_, G10_⟩ := V_b2
  have hin10_ : ¬ ((2 : Int32) < 0 ∨ cl10_.slots.size ≤ ((2 : Int32)).toNatClampNeg) := inb_of S10_ ⟨by decide, by decide⟩
  obtain ⟨T10_, h10_, X10_, e10_, W10_, st10_⟩ := stC X9_ hx hZ e9_ Ar10_ (j := (2 : Int32)) hin10_ (g := (mkF m 69 #[.val (.int i0), .val (.int i1), .val (.int i2), .val (.int i3), .val (.int md), .val (.int ps), .val (.int ch), .val (.ref b1), .unset, .unset, .unset, .unset, .unset, .unset, .unset] [(.int (100 : Int32)), (.int (2 : Int32)), (.ref b2), (.ref b2)])) rfl rfl (hb hby at_69)
  refine Runs.st (st10_) ?_
  have V_b2 := Arv.set Ar10_ q10_ S10_ M10_ Ha10_ G10_ (fits_nar_char _) W10_ 2 rfl (Nat.le_of_ble_eq_true rfl)
  replace old := old.wr W10_ g_b2
  replace V_b1 := V_b1.other W10_ ne_b1_b2
  replace sz := Nat.le_trans sz (Keep.of_wr W10_).1
  replace hk := Nat.le_trans hk (Keep.of_wr W10_).1
  have N10_ := Fr.snoc X10_ N9_ g_b2
  replace K := K.wr W10_ (Or.inr sz_b2)
  show Runs p.tables e below _ (T10_.setTop (mkF m 70 #[.val (.int i0), .val (.int i1), .val (.int i2), .val (.int i3), .val (.int md), .val (.int ps), .val (.int ch), .val (.ref b1), .unset, .unset, .unset, .unset, .unset, .unset, .unset] [(.ref b2)]))
  refine Runs.st (fun t' k' => XS.dup X10_.here hx rfl (hb hby at_70) rfl rfl k') ?_
  refine Runs.st (fun t' k' => XS.iconst X10_.here hx rfl (hb hby at_71) k') ?_
  refine Runs.st (fun t' k' => XS.bipush X10_.here hx rfl (hb hby at_72) k') ?_
  obtain ⟨cl11_, Ar11_, q11_, S11_, M11_, Ha11_, G11_⟩ := V_b2
  have hin11_ : ¬ ((3 : Int32) < 0 ∨ cl11_.slots.size ≤ ((3 : Int32)).toNatClampNeg) := inb_of S11_ ⟨by decide, by decide⟩
  obtain ⟨T11_, h11_, X11_, e11_, W11_, st11_⟩ := stC X10_ hx hZ e10_ Ar11_ (j := (3 : Int32)) hin11_ (g := (mkF m 74 #[.val (.int i0), .val (.int i1), .val (.int i2), .val (.int i3), .val (.int md), .val (.int ps), .val (.int ch), .val (.ref b1), .unset, .unset, .unset, .unset, .unset, .unset, .unset] [(.int (105 : Int32)), (.int (3 : Int32)), (.ref b2), (.ref b2)])) rfl rfl (hb hby at_74)
  refine Runs.st (st11_) ?_
  have V_b2 := Arv.set Ar11_ q11_ S11_ M11_ Ha11_ G11_ (fits_nar_char _) W11_ 3 rfl (Nat.le_of_ble_eq_true rfl)
  replace old := old.wr W11_ g_b2
  replace V_b1 := V_b1.other W11_ ne_b1_b2
  replace sz := Nat.le_trans sz (Keep.of_wr W11_).1
  replace hk := Nat.le_trans hk (Keep.of_wr W11_).1
  have N11_ := Fr.snoc X11_ N10_ g_b2
  replace K := K.wr W11_ (Or.inr sz_b2)
  show Runs p.tables e below _ (T11_.setTop (mkF m 75 #[.val (.int i0), .val (.int i1), .val (.int i2), .val (.int i3), .val (.int md), .val (.int ps), .val (.int ch), .val (.ref b1), .unset, .unset, .unset, .unset, .unset, .unset, .unset] [(.ref b2)]))
  refine Runs.st (fun t' k' => XS.dup X11_.here hx rfl (hb hby at_75) rfl rfl k') ?_
  refine Runs.st (fun t' k' => XS.iconst X11_.here hx rfl (hb hby at_76) k') ?_
  refine Runs.st (fun t' k' => XS.bipush X11_.here hx rfl (hb hby at_77) k') ?_
  obtain ⟨cl12_, Ar12_, q12_, S12_, M12_, Ha12_, G12_⟩ := V_b2
  have hin12_ : ¬ ((4 : Int32) < 0 ∨ cl12_.slots.size ≤ ((4 : Int32)).toNatClampNeg) := inb_of S12_ ⟨by decide, by decide⟩
  obtain ⟨T12_, h12_, X12_, e12_, W12_, st12_⟩ := stC X11_ hx hZ e11_ Ar12_ (j := (4 : Int32)) hin12_ (g := (mkF m 79 #[.val (.int i0), .val (.int i1), .val (.int i2), .val (.int i3), .val (.int md), .val (.int ps), .val (.int ch), .val (.ref b1), .unset, .unset, .unset, .unset, .unset, .unset, .unset] [(.int (115 : Int32)), (.int (4 : Int32)), (.ref b2), (.ref b2)])) rfl rfl (hb hby at_79)
  refine Runs.st (st12_) ?_
  have V_b2 := Arv.set Ar12_ q12_ S12_ M12_ Ha12_ G12_ (fits_nar_char _) W12_ 4 rfl (Nat.le_of_ble_eq_true rfl)
  replace old := old.wr W12_ g_b2
  replace V_b1 := V_b1.other W12_ ne_b1_b2
  replace sz := Nat.le_trans sz (Keep.of_wr W12_).1
  replace hk := Nat.le_trans hk (Keep.of_wr W12_).1
  have N12_ := Fr.snoc X12_ N11_ g_b2
  replace K := K.wr W12_ (Or.inr sz_b2)
  show Runs p.tables e below _ (T12_.setTop (mkF m 80 #[.val (.int i0), .val (.int i1), .val (.int i2), .val (.int i3), .val (.int md), .val (.int ps), .val (.int ch), .val (.ref b1), .unset, .unset, .unset, .unset, .unset, .unset, .unset] [(.ref b2)]))
  refine Runs.st (fun t' k' => XS.dup X12_.here hx rfl (hb hby at_80) rfl rfl k') ?_
  refine Runs.st (fun t' k' => XS.iconst X12_.here hx rfl (hb hby at_81) k') ?_
  refine Runs.st (fun t' k' => XS.iload X12_.here hx rfl (hb hby at_82) rfl k') ?_
  obtain ⟨cl13_, Ar13_, q13_, S13_, M13_, Ha13_, G13_⟩ := V_b2
  have hin13_ : ¬ ((5 : Int32) < 0 ∨ cl13_.slots.size ≤ ((5 : Int32)).toNatClampNeg) := inb_of S13_ ⟨by decide, by decide⟩
  obtain ⟨T13_, h13_, X13_, e13_, W13_, st13_⟩ := stC X12_ hx hZ e12_ Ar13_ (j := (5 : Int32)) hin13_ (g := (mkF m 84 #[.val (.int i0), .val (.int i1), .val (.int i2), .val (.int i3), .val (.int md), .val (.int ps), .val (.int ch), .val (.ref b1), .unset, .unset, .unset, .unset, .unset, .unset, .unset] [(.int ch), (.int (5 : Int32)), (.ref b2), (.ref b2)])) rfl rfl (hb hby at_84)
  refine Runs.st (st13_) ?_
  have V_b2 := Arv.set Ar13_ q13_ S13_ M13_ Ha13_ G13_ (fits_nar_char _) W13_ 5 rfl (Nat.le_of_ble_eq_true rfl)
  replace old := old.wr W13_ g_b2
  replace V_b1 := V_b1.other W13_ ne_b1_b2
  replace sz := Nat.le_trans sz (Keep.of_wr W13_).1
  replace hk := Nat.le_trans hk (Keep.of_wr W13_).1
  have N13_ := Fr.snoc X13_ N12_ g_b2
  replace K := K.wr W13_ (Or.inr sz_b2)
  show Runs p.tables e below _ (T13_.setTop (mkF m 85 #[.val (.int i0), .val (.int i1), .val (.int i2), .val (.int i3), .val (.int md), .val (.int ps), .val (.int ch), .val (.ref b1), .unset, .unset, .unset, .unset, .unset, .unset, .unset] [(.ref b2)]))
  refine Runs.st (fun t' k' => XS.astore X13_.here hx rfl (hb hby at_85) rfl rfl (l' := #[.val (.int i0), .val (.int i1), .val (.int i2), .val (.int i3), .val (.int md), .val (.int ps), .val (.int ch), .val (.ref b1), .val (.ref b2), .unset, .unset, .unset, .unset, .unset, .unset]) rfl k') ?_
  refine Runs.st (fun t' k' => XS.iconst X13_.here hx rfl (hb hby at_87) k') ?_
  obtain ⟨T14_, h14_, k14_, X14_, e14_, E14_, A14_, st14_⟩ := newP X13_ hx hZ (hw _ (List.mem_of_getElem? (i := 1) rfl)) e13_ (g := (mkF m 88 #[.val (.int i0), .val (.int i1), .val (.int i2), .val (.int i3), .val (.int md), .val (.int ps), .val (.int ch), .val (.ref b1), .val (.ref b2), .unset, .unset, .unset, .unset, .unset, .unset] [(.int (4 : Int32))])) rfl (hb hby at_88) rfl (by decide) (cap := 4) (by decide) (by decide) (by decide) (by decide)
  refine Runs.st (st14_) ?_
  obtain ⟨b3, g14_⟩ : ∃ z, z = h13_.size := ⟨_, rfl⟩
  rw [← g14_] at A14_
  try rw [← g14_]
  have g_b3 : n0 ≤ b3 := Nat.le_trans sz (Nat.le_of_eq g14_.symm)
  have sz_b3 : h0.size ≤ b3 := Nat.le_trans K.1 (Nat.le_of_eq g14_.symm)
  have ne_b1_b3 : b1 ≠ b3 := Nat.ne_of_lt (Nat.lt_of_lt_of_le V_b1.lt (Nat.le_of_eq g14_.symm))
  have ne_b2_b3 : b2 ≠ b3 := Nat.ne_of_lt (Nat.lt_of_lt_of_le V_b2.lt (Nat.le_of_eq g14_.symm))
  replace old := old.ext E14_
  replace V_b1 := V_b1.ext E14_
  replace V_b2 := V_b2.ext E14_
  replace sz := Nat.le_trans sz E14_.1
  replace K := K.ext E14_
  replace hk := Nat.le_trans hk E14_.1
  have V_b3 : Arv Z h14_ b3 k14_ .char (4 : Int32) [(.int (0 : Int32)), (.int (0 : Int32)), (.int (0 : Int32)), (.int (0 : Int32))] (.int (0 : Int32)) := (Arv.new A14_ (by decide)).pad (pad_rep [] (.int (0 : Int32)) 4)
  show Runs p.tables e below _ (T14_.setTop (mkF m 90 #[.val (.int i0), .val (.int i1), .val (.int i2), .val (.int i3), .val (.int md), .val (.int ps), .val (.int ch), .val (.ref b1), .val (.ref b2), .unset, .unset, .unset, .unset, .unset, .unset] [(.ref b3)]))
  refine Runs.st (fun t' k' => XS.dup X14_.here hx rfl (hb hby at_90) rfl rfl k') ?_
  refine Runs.st (fun t' k' => XS.iconst X14_.here hx rfl (hb hby at_91) k') ?_
  refine Runs.st (fun t' k' => XS.bipush X14_.here hx rfl (hb hby at_92) k') ?_
  obtain ⟨cl15_, Ar15_, q15_, S15_, M15_, Ha15_, G15_⟩ := V_b3
  have hin15_ : ¬ ((0 : Int32) < 0 ∨ cl15_.slots.size ≤ ((0 : Int32)).toNatClampNeg) := inb_of S15_ ⟨by decide, by decide⟩
  obtain ⟨T15_, h15_, X15_, e15_, W15_, st15_⟩ := stC X14_ hx hZ e14_ Ar15_ (j := (0 : Int32)) hin15_ (g := (mkF m 94 #[.val (.int i0), .val (.int i1), .val (.int i2), .val (.int i3), .val (.int md), .val (.int ps), .val (.int ch), .val (.ref b1), .val (.ref b2), .unset, .unset, .unset, .unset, .unset, .unset] [(.int (82 : Int32)), (.int (0 : Int32)), (.ref b3), (.ref b3)])) rfl rfl (hb hby at_94)
  refine Runs.st (st15_) ?_
  have V_b3 := Arv.set Ar15_ q15_ S15_ M15_ Ha15_ G15_ (fits_nar_char _) W15_ 0 rfl (Nat.le_of_ble_eq_true rfl)
  replace old := old.wr W15_ g_b3
  replace V_b1 := V_b1.other W15_ ne_b1_b3
  replace V_b2 := V_b2.other W15_ ne_b2_b3
  replace sz := Nat.le_trans sz (Keep.of_wr W15_).1
  replace hk := Nat.le_trans hk (Keep.of_wr W15_).1
  have N15_ := Fr.snoc X15_ N13_ g_b3
  replace K := K.wr W15_ (Or.inr sz_b3)
  show Runs p.tables e below _ (T15_.setTop (mkF m 95 #[.val (.int i0), .val (.int i1), .val (.int i2), .val (.int i3), .val (.int md), .val (.int ps), .val (.int ch), .val (.ref b1), .val (.ref b2), .unset, .unset, .unset, .unset, .unset, .unset] [(.ref b3)]))
  refine Runs.st (fun t' k' => XS.dup X15_.here hx rfl (hb hby at_95) rfl rfl k') ?_
  refine Runs.st (fun t' k' => XS.iconst X15_.here hx rfl (hb hby at_96) k') ?_
  refine Runs.st (fun t' k' => XS.bipush X15_.here hx rfl (hb hby at_97) k') ?_
  obtain ⟨cl16_, Ar16_, q16_, S16_, M16_, Ha16_, G16_⟩ := V_b3
  have hin16_ : ¬ ((1 : Int32) < 0 ∨ cl16_.slots.size ≤ ((1 : Int32)).toNatClampNeg) := inb_of S16_ ⟨by decide, by decide⟩
  obtain ⟨T16_, h16_, X16_, e16_, W16_, st16_⟩ := stC X15_ hx hZ e15_ Ar16_ (j := (1 : Int32)) hin16_ (g := (mkF m 99 #[.val (.int i0), .val (.int i1), .val (.int i2), .val (.int i3), .val (.int md), .val (.int ps), .val (.int ch), .val (.ref b1), .val (.ref b2), .unset, .unset, .unset, .unset, .unset, .unset] [(.int (101 : Int32)), (.int (1 : Int32)), (.ref b3), (.ref b3)])) rfl rfl (hb hby at_99)
  refine Runs.st (st16_) ?_
  have V_b3 := Arv.set Ar16_ q16_ S16_ M16_ Ha16_ G16_ (fits_nar_char _) W16_ 1 rfl (Nat.le_of_ble_eq_true rfl)
  replace old := old.wr W16_ g_b3
  replace V_b1 := V_b1.other W16_ ne_b1_b3
  replace V_b2 := V_b2.other W16_ ne_b2_b3
  replace sz := Nat.le_trans sz (Keep.of_wr W16_).1
  replace hk := Nat.le_trans hk (Keep.of_wr W16_).1
  have N16_ := Fr.snoc X16_ N15_ g_b3
  replace K := K.wr W16_ (Or.inr sz_b3)
  show Runs p.tables e below _ (T16_.setTop (mkF m 100 #[.val (.int i0), .val (.int i1), .val (.int i2), .val (.int i3), .val (.int md), .val (.int ps), .val (.int ch), .val (.ref b1), .val (.ref b2), .unset, .unset, .unset, .unset, .unset, .unset] [(.ref b3)]))
  refine Runs.st (fun t' k' => XS.dup X16_.here hx rfl (hb hby at_100) rfl rfl k') ?_
  refine Runs.st (fun t' k' => XS.iconst X16_.here hx rfl (hb hby at_101) k') ?_
  refine Runs.st (fun t' k' => XS.bipush X16_.here hx rfl (hb hby at_102) k') ?_
  obtain ⟨cl17_, Ar17_, q17_, S17_, M17_, Ha17_, G17_⟩ := V_b3
  have hin17_ : ¬ ((2 : Int32) < 0 ∨ cl17_.slots.size ≤ ((2 : Int32)).toNatClampNeg) := inb_of S17_ ⟨by decide, by decide⟩
  obtain ⟨T17_, h17_, X17_, e17_, W17_, st17_⟩ := stC X16_ hx hZ e16_ Ar17_ (j := (2 : Int32)) hin17_ (g := (mkF m 104 #[.val (.int i0), .val (.int i1), .val (.int i2), .val (.int i3), .val (.int md), .val (.int ps), .val (.int ch), .val (.ref b1), .val (.ref b2), .unset, .unset, .unset, .unset, .unset, .unset] [(.int (100 : Int32)), (.int (2 : Int32)), (.ref b3), (.ref b3)])) rfl rfl (hb hby at_104)
  refine Runs.st (st17_) ?_
  have V_b3 := Arv.set Ar17_ q17_ S17_ M17_ Ha17_ G17_ (fits_nar_char _) W17_ 2 rfl (Nat.le_of_ble_eq_true rfl)
  replace old := old.wr W17_ g_b3
  replace V_b1 := V_b1.other W17_ ne_b1_b3
  replace V_b2 := V_b2.other W17_ ne_b2_b3
  replace sz := Nat.le_trans sz (Keep.of_wr W17_).1
  replace hk := Nat.le_trans hk (Keep.of_wr W17_).1
  have N17_ := Fr.snoc X17_ N16_ g_b3
  replace K := K.wr W17_ (Or.inr sz_b3)
  show Runs p.tables e below _ (T17_.setTop (mkF m 105 #[.val (.int i0), .val (.int i1), .val (.int i2), .val (.int i3), .val (.int md), .val (.int ps), .val (.int ch), .val (.ref b1), .val (.ref b2), .unset, .unset, .unset, .unset, .unset, .unset] [(.ref b3)]))
  refine Runs.st (fun t' k' => XS.dup X17_.here hx rfl (hb hby at_105) rfl rfl k') ?_
  refine Runs.st (fun t' k' => XS.iconst X17_.here hx rfl (hb hby at_106) k') ?_
  refine Runs.st (fun t' k' => XS.bipush X17_.here hx rfl (hb hby at_107) k') ?_
  obtain ⟨cl18_, Ar18_, q18_, S18_, M18_, Ha18_, G18_⟩ := V_b3
  have hin18_ : ¬ ((3 : Int32) < 0 ∨ cl18_.slots.size ≤ ((3 : Int32)).toNatClampNeg) := inb_of S18_ ⟨by decide, by decide⟩
  obtain ⟨T18_, h18_, X18_, e18_, W18_, st18_⟩ := stC X17_ hx hZ e17_ Ar18_ (j := (3 : Int32)) hin18_ (g := (mkF m 109 #[.val (.int i0), .val (.int i1), .val (.int i2), .val (.int i3), .val (.int md), .val (.int ps), .val (.int ch), .val (.ref b1), .val (.ref b2), .unset, .unset, .unset, .unset, .unset, .unset] [(.int (105 : Int32)), (.int (3 : Int32)), (.ref b3), (.ref b3)])) rfl rfl (hb hby at_109)
  refine Runs.st (st18_) ?_
  have V_b3 := Arv.set Ar18_ q18_ S18_ M18_ Ha18_ G18_ (fits_nar_char _) W18_ 3 rfl (Nat.le_of_ble_eq_true rfl)
  replace old := old.wr W18_ g_b3
  replace V_b1 := V_b1.other W18_ ne_b1_b3
  replace V_b2 := V_b2.other W18_ ne_b2_b3
  replace sz := Nat.le_trans sz (Keep.of_wr W18_).1
  replace hk := Nat.le_trans hk (Keep.of_wr W18_).1
  have N18_ := Fr.snoc X18_ N17_ g_b3
  replace K := K.wr W18_ (Or.inr sz_b3)
  show Runs p.tables e below _ (T18_.setTop (mkF m 110 #[.val (.int i0), .val (.int i1), .val (.int i2), .val (.int i3), .val (.int md), .val (.int ps), .val (.int ch), .val (.ref b1), .val (.ref b2), .unset, .unset, .unset, .unset, .unset, .unset] [(.ref b3)]))
  refine Runs.st (fun t' k' => XS.astore X18_.here hx rfl (hb hby at_110) rfl rfl (l' := #[.val (.int i0), .val (.int i1), .val (.int i2), .val (.int i3), .val (.int md), .val (.int ps), .val (.int ch), .val (.ref b1), .val (.ref b2), .val (.ref b3), .unset, .unset, .unset, .unset, .unset]) rfl k') ?_
  refine Runs.st (fun t' k' => XS.iconst X18_.here hx rfl (hb hby at_112) k') ?_
  obtain ⟨T19_, h19_, k19_, X19_, e19_, E19_, A19_, st19_⟩ := newP X18_ hx hZ (hw _ (List.mem_of_getElem? (i := 1) rfl)) e18_ (g := (mkF m 113 #[.val (.int i0), .val (.int i1), .val (.int i2), .val (.int i3), .val (.int md), .val (.int ps), .val (.int ch), .val (.ref b1), .val (.ref b2), .val (.ref b3), .unset, .unset, .unset, .unset, .unset] [(.int (0 : Int32))])) rfl (hb hby at_113) rfl (by decide) (cap := 0) (by decide) (by decide) (by decide) (by decide)
  refine Runs.st (st19_) ?_
  obtain ⟨b4, g19_⟩ : ∃ z, z = h18_.size := ⟨_, rfl⟩
  rw [← g19_] at A19_
  try rw [← g19_]
  have g_b4 : n0 ≤ b4 := Nat.le_trans sz (Nat.le_of_eq g19_.symm)
  have sz_b4 : h0.size ≤ b4 := Nat.le_trans K.1 (Nat.le_of_eq g19_.symm)
  have ne_b1_b4 : b1 ≠ b4 := Nat.ne_of_lt (Nat.lt_of_lt_of_le V_b1.lt (Nat.le_of_eq g19_.symm))
  have ne_b2_b4 : b2 ≠ b4 := Nat.ne_of_lt (Nat.lt_of_lt_of_le V_b2.lt (Nat.le_of_eq g19_.symm))
  have ne_b3_b4 : b3 ≠ b4 := Nat.ne_of_lt (Nat.lt_of_lt_of_le V_b3.lt (Nat.le_of_eq g19_.symm))
  replace old := old.ext E19_
  replace V_b1 := V_b1.ext E19_
  replace V_b2 := V_b2.ext E19_
  replace V_b3 := V_b3.ext E19_
  replace sz := Nat.le_trans sz E19_.1
  replace K := K.ext E19_
  replace hk := Nat.le_trans hk E19_.1
  have V_b4 : Arv Z h19_ b4 k19_ .char (0 : Int32) [] (.int (0 : Int32)) := (Arv.new A19_ (by decide)).pad (pad_rep [] (.int (0 : Int32)) 0)
  show Runs p.tables e below _ (T19_.setTop (mkF m 115 #[.val (.int i0), .val (.int i1), .val (.int i2), .val (.int i3), .val (.int md), .val (.int ps), .val (.int ch), .val (.ref b1), .val (.ref b2), .val (.ref b3), .unset, .unset, .unset, .unset, .unset] [(.ref b4)]))
  refine Runs.st (fun t' k' => XS.astore X19_.here hx rfl (hb hby at_115) rfl rfl (l' := #[.val (.int i0), .val (.int i1), .val (.int i2), .val (.int i3), .val (.int md), .val (.int ps), .val (.int ch), .val (.ref b1), .val (.ref b2), .val (.ref b3), .val (.ref b4), .unset, .unset, .unset, .unset]) rfl k') ?_
  rcases hmode with rfl | rfl | rfl | rfl
  · skip
    show Runs p.tables e below _ (T19_.setTop (mkF m 117 #[.val (.int i0), .val (.int i1), .val (.int i2), .val (.int i3), .val (.int (0 : Int32)), .val (.int ps), .val (.int ch), .val (.ref b1), .val (.ref b2), .val (.ref b3), .val (.ref b4), .unset, .unset, .unset, .unset] []))
    refine Runs.st (fun t' k' => XS.iload X19_.here hx rfl (hb hby at_117) rfl k') ?_
    refine Runs.st (fun t' k' => XS.iconst X19_.here hx rfl (hb hby at_119) k') ?_
    refine Runs.st (fun t' k' => XS.icmpYes X19_.here hx rfl (pc0 := 120) (pc' := 130) rfl (hb hby at_120) rfl (feq (by decide)).2 (by decide) (by decide) k') ?_
    show Runs p.tables e below _ (T19_.setTop (mkF m 130 #[.val (.int i0), .val (.int i1), .val (.int i2), .val (.int i3), .val (.int (0 : Int32)), .val (.int ps), .val (.int ch), .val (.ref b1), .val (.ref b2), .val (.ref b3), .val (.ref b4), .unset, .unset, .unset, .unset] []))
    refine Runs.st (fun t' k' => XS.iload X19_.here hx rfl (hb hby at_130) rfl k') ?_
    refine Runs.st (fun t' k' => XS.iconst X19_.here hx rfl (hb hby at_132) k') ?_
    refine Runs.st (fun t' k' => XS.icmpYes X19_.here hx rfl (pc0 := 133) (pc' := 195) rfl (hb hby at_133) rfl (feq (by decide)).2 (by decide) (by decide) k') ?_
    show Runs p.tables e below _ (T19_.setTop (mkF m 195 #[.val (.int i0), .val (.int i1), .val (.int i2), .val (.int i3), .val (.int (0 : Int32)), .val (.int ps), .val (.int ch), .val (.ref b1), .val (.ref b2), .val (.ref b3), .val (.ref b4), .unset, .unset, .unset, .unset] []))
    refine Runs.st (fun t' k' => XS.iload X19_.here hx rfl (hb hby at_195) rfl k') ?_
    refine Runs.st (fun t' k' => XS.iconst X19_.here hx rfl (hb hby at_197) k') ?_
    refine Runs.st (fun t' k' => XS.icmpYes X19_.here hx rfl (pc0 := 198) (pc' := 278) rfl (hb hby at_198) rfl (feq (by decide)).2 (by decide) (by decide) k') ?_
    show Runs p.tables e below _ (T19_.setTop (mkF m 278 #[.val (.int i0), .val (.int i1), .val (.int i2), .val (.int i3), .val (.int (0 : Int32)), .val (.int ps), .val (.int ch), .val (.ref b1), .val (.ref b2), .val (.ref b3), .val (.ref b4), .unset, .unset, .unset, .unset] []))
    exact seg5 (h0 := h0) i0 i1 i2 i3 (0 : Int32) ps ch b1 b2 b3 b4 (nar .char (82 : Int32)) (nar .char (101 : Int32)) (nar .char (100 : Int32)) (nar .char (105 : Int32)) (nar .char (115 : Int32)) _ oe om s0 s1 v0 v1 kv0 kv1 zc fm (show Stand p l e room_1 (s.setVm s.vm) m _ below meth c _ _ 4 15 from (wider X19_ (c' := 4) (s' := 15) (by decide) (by decide))) hx hw hby hml hlk hret e19_ N18_ sz K hZ hown hS hk hZ0 hown0 hkeep hsn IB0 old Sc hzc Sf hfm hs10 S0 E0 Fs0 Es0 Fc0 Fv0 V0 S1 E1 Fs1 Es1 Fc1 Fv1 V1 V_b1 (by decide) (by decide) (by decide) (by decide) (by decide)
  · skip
    show Runs p.tables e below _ (T19_.setTop (mkF m 117 #[.val (.int i0), .val (.int i1), .val (.int i2), .val (.int i3), .val (.int (1 : Int32)), .val (.int ps), .val (.int ch), .val (.ref b1), .val (.ref b2), .val (.ref b3), .val (.ref b4), .unset, .unset, .unset, .unset] []))
    refine Runs.st (fun t' k' => XS.iload X19_.here hx rfl (hb hby at_117) rfl k') ?_
    refine Runs.st (fun t' k' => XS.iconst X19_.here hx rfl (hb hby at_119) k') ?_
    refine Runs.st (fun t' k' => XS.icmpNo X19_.here hx rfl (hb hby at_120) rfl (teq rfl).2 k') ?_
    show Runs p.tables e below _ (T19_.setTop (mkF m 123 #[.val (.int i0), .val (.int i1), .val (.int i2), .val (.int i3), .val (.int (1 : Int32)), .val (.int ps), .val (.int ch), .val (.ref b1), .val (.ref b2), .val (.ref b3), .val (.ref b4), .unset, .unset, .unset, .unset] []))
    rcases hpos with rfl | rfl | rfl | rfl | rfl
    · skip
      show Runs p.tables e below _ (T19_.setTop (mkF m 123 #[.val (.int i0), .val (.int i1), .val (.int i2), .val (.int i3), .val (.int (1 : Int32)), .val (.int (0 : Int32)), .val (.int ch), .val (.ref b1), .val (.ref b2), .val (.ref b3), .val (.ref b4), .unset, .unset, .unset, .unset] []))
      refine Runs.st (fun t' k' => XS.aload X19_.here hx rfl (hb hby at_123) rfl rfl k') ?_
      refine Runs.st (fun t' k' => XS.iload X19_.here hx rfl (hb hby at_125) rfl k') ?_
      refine Runs.st (fun t' k' => XS.iload X19_.here hx rfl (hb hby at_127) rfl k') ?_
      obtain ⟨cl20_, Ar20_, q20_, S20_, M20_, Ha20_, G20_⟩ := V_b1
      have hin20_ : ¬ ((0 : Int32) < 0 ∨ cl20_.slots.size ≤ ((0 : Int32)).toNatClampNeg) := inb_of S20_ ⟨by decide, by decide⟩
      obtain ⟨T20_, h20_, X20_, e20_, W20_, st20_⟩ := stC X19_ hx hZ e19_ Ar20_ (j := (0 : Int32)) hin20_ (g := (mkF m 129 #[.val (.int i0), .val (.int i1), .val (.int i2), .val (.int i3), .val (.int (1 : Int32)), .val (.int (0 : Int32)), .val (.int ch), .val (.ref b1), .val (.ref b2), .val (.ref b3), .val (.ref b4), .unset, .unset, .unset, .unset] [(.int ch), (.int (0 : Int32)), (.ref b1)])) rfl rfl (hb hby at_129)
      refine Runs.st (st20_) ?_
      have V_b1 := Arv.set Ar20_ q20_ S20_ M20_ Ha20_ G20_ (fits_nar_char _) W20_ 0 rfl (Nat.le_of_ble_eq_true rfl)
      replace old := old.wr W20_ g_b1
      replace V_b2 := V_b2.other W20_ (Ne.symm ne_b1_b2)
      replace V_b3 := V_b3.other W20_ (Ne.symm ne_b1_b3)
      replace V_b4 := V_b4.other W20_ (Ne.symm ne_b1_b4)
      replace sz := Nat.le_trans sz (Keep.of_wr W20_).1
      replace hk := Nat.le_trans hk (Keep.of_wr W20_).1
      have N20_ := Fr.snoc X20_ N18_ g_b1
      replace K := K.wr W20_ (Or.inr sz_b1)
      show Runs p.tables e below _ (T20_.setTop (mkF m 130 #[.val (.int i0), .val (.int i1), .val (.int i2), .val (.int i3), .val (.int (1 : Int32)), .val (.int (0 : Int32)), .val (.int ch), .val (.ref b1), .val (.ref b2), .val (.ref b3), .val (.ref b4), .unset, .unset, .unset, .unset] []))
      refine Runs.st (fun t' k' => XS.iload X20_.here hx rfl (hb hby at_130) rfl k') ?_
      refine Runs.st (fun t' k' => XS.iconst X20_.here hx rfl (hb hby at_132) k') ?_
      refine Runs.st (fun t' k' => XS.icmpYes X20_.here hx rfl (pc0 := 133) (pc' := 195) rfl (hb hby at_133) rfl (feq (by decide)).2 (by decide) (by decide) k') ?_
      show Runs p.tables e below _ (T20_.setTop (mkF m 195 #[.val (.int i0), .val (.int i1), .val (.int i2), .val (.int i3), .val (.int (1 : Int32)), .val (.int (0 : Int32)), .val (.int ch), .val (.ref b1), .val (.ref b2), .val (.ref b3), .val (.ref b4), .unset, .unset, .unset, .unset] []))
      refine Runs.st (fun t' k' => XS.iload X20_.here hx rfl (hb hby at_195) rfl k') ?_
      refine Runs.st (fun t' k' => XS.iconst X20_.here hx rfl (hb hby at_197) k') ?_
      refine Runs.st (fun t' k' => XS.icmpYes X20_.here hx rfl (pc0 := 198) (pc' := 278) rfl (hb hby at_198) rfl (feq (by decide)).2 (by decide) (by decide) k') ?_
      show Runs p.tables e below _ (T20_.setTop (mkF m 278 #[.val (.int i0), .val (.int i1), .val (.int i2), .val (.int i3), .val (.int (1 : Int32)), .val (.int (0 : Int32)), .val (.int ch), .val (.ref b1), .val (.ref b2), .val (.ref b3), .val (.ref b4), .unset, .unset, .unset, .unset] []))
      exact seg5 (h0 := h0) i0 i1 i2 i3 (1 : Int32) (0 : Int32) ch b1 b2 b3 b4 (nar .char ch) (nar .char (101 : Int32)) (nar .char (100 : Int32)) (nar .char (105 : Int32)) (nar .char (115 : Int32)) _ oe om s0 s1 v0 v1 kv0 kv1 zc fm (show Stand p l e room_1 (s.setVm s.vm) m _ below meth c _ _ 4 15 from (wider X20_ (c' := 4) (s' := 15) (by decide) (by decide))) hx hw hby hml hlk hret e20_ N20_ sz K hZ hown hS hk hZ0 hown0 hkeep hsn IB0 old Sc hzc Sf hfm hs10 S0 E0 Fs0 Es0 Fc0 Fv0 V0 S1 E1 Fs1 Es1 Fc1 Fv1 V1 V_b1 (own_nar _ rch) (by decide) (by decide) (by decide) (by decide)
    · skip
      show Runs p.tables e below _ (T19_.setTop (mkF m 123 #[.val (.int i0), .val (.int i1), .val (.int i2), .val (.int i3), .val (.int (1 : Int32)), .val (.int (1 : Int32)), .val (.int ch), .val (.ref b1), .val (.ref b2), .val (.ref b3), .val (.ref b4), .unset, .unset, .unset, .unset] []))
      refine Runs.st (fun t' k' => XS.aload X19_.here hx rfl (hb hby at_123) rfl rfl k') ?_
      refine Runs.st (fun t' k' => XS.iload X19_.here hx rfl (hb hby at_125) rfl k') ?_
      refine Runs.st (fun t' k' => XS.iload X19_.here hx rfl (hb hby at_127) rfl k') ?_
      obtain ⟨cl21_, Ar21_, q21_, S21_, M21_, Ha21_, G21_⟩ := V_b1
      have hin21_ : ¬ ((1 : Int32) < 0 ∨ cl21_.slots.size ≤ ((1 : Int32)).toNatClampNeg) := inb_of S21_ ⟨by decide, by decide⟩
      obtain ⟨T21_, h21_, X21_, e21_, W21_, st21_⟩ := stC X19_ hx hZ e19_ Ar21_ (j := (1 : Int32)) hin21_ (g := (mkF m 129 #[.val (.int i0), .val (.int i1), .val (.int i2), .val (.int i3), .val (.int (1 : Int32)), .val (.int (1 : Int32)), .val (.int ch), .val (.ref b1), .val (.ref b2), .val (.ref b3), .val (.ref b4), .unset, .unset, .unset, .unset] [(.int ch), (.int (1 : Int32)), (.ref b1)])) rfl rfl (hb hby at_129)
      refine Runs.st (st21_) ?_
      have V_b1 := Arv.set Ar21_ q21_ S21_ M21_ Ha21_ G21_ (fits_nar_char _) W21_ 1 rfl (Nat.le_of_ble_eq_true rfl)
      replace old := old.wr W21_ g_b1
      replace V_b2 := V_b2.other W21_ (Ne.symm ne_b1_b2)
      replace V_b3 := V_b3.other W21_ (Ne.symm ne_b1_b3)
      replace V_b4 := V_b4.other W21_ (Ne.symm ne_b1_b4)
      replace sz := Nat.le_trans sz (Keep.of_wr W21_).1
      replace hk := Nat.le_trans hk (Keep.of_wr W21_).1
      have N21_ := Fr.snoc X21_ N18_ g_b1
      replace K := K.wr W21_ (Or.inr sz_b1)
      show Runs p.tables e below _ (T21_.setTop (mkF m 130 #[.val (.int i0), .val (.int i1), .val (.int i2), .val (.int i3), .val (.int (1 : Int32)), .val (.int (1 : Int32)), .val (.int ch), .val (.ref b1), .val (.ref b2), .val (.ref b3), .val (.ref b4), .unset, .unset, .unset, .unset] []))
      refine Runs.st (fun t' k' => XS.iload X21_.here hx rfl (hb hby at_130) rfl k') ?_
      refine Runs.st (fun t' k' => XS.iconst X21_.here hx rfl (hb hby at_132) k') ?_
      refine Runs.st (fun t' k' => XS.icmpYes X21_.here hx rfl (pc0 := 133) (pc' := 195) rfl (hb hby at_133) rfl (feq (by decide)).2 (by decide) (by decide) k') ?_
      show Runs p.tables e below _ (T21_.setTop (mkF m 195 #[.val (.int i0), .val (.int i1), .val (.int i2), .val (.int i3), .val (.int (1 : Int32)), .val (.int (1 : Int32)), .val (.int ch), .val (.ref b1), .val (.ref b2), .val (.ref b3), .val (.ref b4), .unset, .unset, .unset, .unset] []))
      refine Runs.st (fun t' k' => XS.iload X21_.here hx rfl (hb hby at_195) rfl k') ?_
      refine Runs.st (fun t' k' => XS.iconst X21_.here hx rfl (hb hby at_197) k') ?_
      refine Runs.st (fun t' k' => XS.icmpYes X21_.here hx rfl (pc0 := 198) (pc' := 278) rfl (hb hby at_198) rfl (feq (by decide)).2 (by decide) (by decide) k') ?_
      show Runs p.tables e below _ (T21_.setTop (mkF m 278 #[.val (.int i0), .val (.int i1), .val (.int i2), .val (.int i3), .val (.int (1 : Int32)), .val (.int (1 : Int32)), .val (.int ch), .val (.ref b1), .val (.ref b2), .val (.ref b3), .val (.ref b4), .unset, .unset, .unset, .unset] []))
      exact seg5 (h0 := h0) i0 i1 i2 i3 (1 : Int32) (1 : Int32) ch b1 b2 b3 b4 (nar .char (82 : Int32)) (nar .char ch) (nar .char (100 : Int32)) (nar .char (105 : Int32)) (nar .char (115 : Int32)) _ oe om s0 s1 v0 v1 kv0 kv1 zc fm (show Stand p l e room_1 (s.setVm s.vm) m _ below meth c _ _ 4 15 from (wider X21_ (c' := 4) (s' := 15) (by decide) (by decide))) hx hw hby hml hlk hret e21_ N21_ sz K hZ hown hS hk hZ0 hown0 hkeep hsn IB0 old Sc hzc Sf hfm hs10 S0 E0 Fs0 Es0 Fc0 Fv0 V0 S1 E1 Fs1 Es1 Fc1 Fv1 V1 V_b1 (by decide) (own_nar _ rch) (by decide) (by decide) (by decide)
    · skip
      show Runs p.tables e below _ (T19_.setTop (mkF m 123 #[.val (.int i0), .val (.int i1), .val (.int i2), .val (.int i3), .val (.int (1 : Int32)), .val (.int (2 : Int32)), .val (.int ch), .val (.ref b1), .val (.ref b2), .val (.ref b3), .val (.ref b4), .unset, .unset, .unset, .unset] []))
      refine Runs.st (fun t' k' => XS.aload X19_.here hx rfl (hb hby at_123) rfl rfl k') ?_
      refine Runs.st (fun t' k' => XS.iload X19_.here hx rfl (hb hby at_125) rfl k') ?_
      refine Runs.st (fun t' k' => XS.iload X19_.here hx rfl (hb hby at_127) rfl k') ?_
      obtain ⟨cl22_, Ar22_, q22_, S22_, M22_, Ha22_, G22_⟩ := V_b1
      have hin22_ : ¬ ((2 : Int32) < 0 ∨ cl22_.slots.size ≤ ((2 : Int32)).toNatClampNeg) := inb_of S22_ ⟨by decide, by decide⟩
      obtain ⟨T22_, h22_, X22_, e22_, W22_, st22_⟩ := stC X19_ hx hZ e19_ Ar22_ (j := (2 : Int32)) hin22_ (g := (mkF m 129 #[.val (.int i0), .val (.int i1), .val (.int i2), .val (.int i3), .val (.int (1 : Int32)), .val (.int (2 : Int32)), .val (.int ch), .val (.ref b1), .val (.ref b2), .val (.ref b3), .val (.ref b4), .unset, .unset, .unset, .unset] [(.int ch), (.int (2 : Int32)), (.ref b1)])) rfl rfl (hb hby at_129)
      refine Runs.st (st22_) ?_
      have V_b1 := Arv.set Ar22_ q22_ S22_ M22_ Ha22_ G22_ (fits_nar_char _) W22_ 2 rfl (Nat.le_of_ble_eq_true rfl)
      replace old := old.wr W22_ g_b1
      replace V_b2 := V_b2.other W22_ (Ne.symm ne_b1_b2)
      replace V_b3 := V_b3.other W22_ (Ne.symm ne_b1_b3)
      replace V_b4 := V_b4.other W22_ (Ne.symm ne_b1_b4)
      replace sz := Nat.le_trans sz (Keep.of_wr W22_).1
      replace hk := Nat.le_trans hk (Keep.of_wr W22_).1
      have N22_ := Fr.snoc X22_ N18_ g_b1
      replace K := K.wr W22_ (Or.inr sz_b1)
      show Runs p.tables e below _ (T22_.setTop (mkF m 130 #[.val (.int i0), .val (.int i1), .val (.int i2), .val (.int i3), .val (.int (1 : Int32)), .val (.int (2 : Int32)), .val (.int ch), .val (.ref b1), .val (.ref b2), .val (.ref b3), .val (.ref b4), .unset, .unset, .unset, .unset] []))
      refine Runs.st (fun t' k' => XS.iload X22_.here hx rfl (hb hby at_130) rfl k') ?_
      refine Runs.st (fun t' k' => XS.iconst X22_.here hx rfl (hb hby at_132) k') ?_
      refine Runs.st (fun t' k' => XS.icmpYes X22_.here hx rfl (pc0 := 133) (pc' := 195) rfl (hb hby at_133) rfl (feq (by decide)).2 (by decide) (by decide) k') ?_
      show Runs p.tables e below _ (T22_.setTop (mkF m 195 #[.val (.int i0), .val (.int i1), .val (.int i2), .val (.int i3), .val (.int (1 : Int32)), .val (.int (2 : Int32)), .val (.int ch), .val (.ref b1), .val (.ref b2), .val (.ref b3), .val (.ref b4), .unset, .unset, .unset, .unset] []))
      refine Runs.st (fun t' k' => XS.iload X22_.here hx rfl (hb hby at_195) rfl k') ?_
      refine Runs.st (fun t' k' => XS.iconst X22_.here hx rfl (hb hby at_197) k') ?_
      refine Runs.st (fun t' k' => XS.icmpYes X22_.here hx rfl (pc0 := 198) (pc' := 278) rfl (hb hby at_198) rfl (feq (by decide)).2 (by decide) (by decide) k') ?_
      show Runs p.tables e below _ (T22_.setTop (mkF m 278 #[.val (.int i0), .val (.int i1), .val (.int i2), .val (.int i3), .val (.int (1 : Int32)), .val (.int (2 : Int32)), .val (.int ch), .val (.ref b1), .val (.ref b2), .val (.ref b3), .val (.ref b4), .unset, .unset, .unset, .unset] []))
      exact seg5 (h0 := h0) i0 i1 i2 i3 (1 : Int32) (2 : Int32) ch b1 b2 b3 b4 (nar .char (82 : Int32)) (nar .char (101 : Int32)) (nar .char ch) (nar .char (105 : Int32)) (nar .char (115 : Int32)) _ oe om s0 s1 v0 v1 kv0 kv1 zc fm (show Stand p l e room_1 (s.setVm s.vm) m _ below meth c _ _ 4 15 from (wider X22_ (c' := 4) (s' := 15) (by decide) (by decide))) hx hw hby hml hlk hret e22_ N22_ sz K hZ hown hS hk hZ0 hown0 hkeep hsn IB0 old Sc hzc Sf hfm hs10 S0 E0 Fs0 Es0 Fc0 Fv0 V0 S1 E1 Fs1 Es1 Fc1 Fv1 V1 V_b1 (by decide) (by decide) (own_nar _ rch) (by decide) (by decide)
    · skip
      show Runs p.tables e below _ (T19_.setTop (mkF m 123 #[.val (.int i0), .val (.int i1), .val (.int i2), .val (.int i3), .val (.int (1 : Int32)), .val (.int (3 : Int32)), .val (.int ch), .val (.ref b1), .val (.ref b2), .val (.ref b3), .val (.ref b4), .unset, .unset, .unset, .unset] []))
      refine Runs.st (fun t' k' => XS.aload X19_.here hx rfl (hb hby at_123) rfl rfl k') ?_
      refine Runs.st (fun t' k' => XS.iload X19_.here hx rfl (hb hby at_125) rfl k') ?_
      refine Runs.st (fun t' k' => XS.iload X19_.here hx rfl (hb hby at_127) rfl k') ?_
      obtain ⟨cl23_, Ar23_, q23_, S23_, M23_, Ha23_, G23_⟩ := V_b1
      have hin23_ : ¬ ((3 : Int32) < 0 ∨ cl23_.slots.size ≤ ((3 : Int32)).toNatClampNeg) := inb_of S23_ ⟨by decide, by decide⟩
      obtain ⟨T23_, h23_, X23_, e23_, W23_, st23_⟩ := stC X19_ hx hZ e19_ Ar23_ (j := (3 : Int32)) hin23_ (g := (mkF m 129 #[.val (.int i0), .val (.int i1), .val (.int i2), .val (.int i3), .val (.int (1 : Int32)), .val (.int (3 : Int32)), .val (.int ch), .val (.ref b1), .val (.ref b2), .val (.ref b3), .val (.ref b4), .unset, .unset, .unset, .unset] [(.int ch), (.int (3 : Int32)), (.ref b1)])) rfl rfl (hb hby at_129)
      refine Runs.st (st23_) ?_
      have V_b1 := Arv.set Ar23_ q23_ S23_ M23_ Ha23_ G23_ (fits_nar_char _) W23_ 3 rfl (Nat.le_of_ble_eq_true rfl)
      replace old := old.wr W23_ g_b1
      replace V_b2 := V_b2.other W23_ (Ne.symm ne_b1_b2)
      replace V_b3 := V_b3.other W23_ (Ne.symm ne_b1_b3)
      replace V_b4 := V_b4.other W23_ (Ne.symm ne_b1_b4)
      replace sz := Nat.le_trans sz (Keep.of_wr W23_).1
      replace hk := Nat.le_trans hk (Keep.of_wr W23_).1
      have N23_ := Fr.snoc X23_ N18_ g_b1
      replace K := K.wr W23_ (Or.inr sz_b1)
      show Runs p.tables e below _ (T23_.setTop (mkF m 130 #[.val (.int i0), .val (.int i1), .val (.int i2), .val (.int i3), .val (.int (1 : Int32)), .val (.int (3 : Int32)), .val (.int ch), .val (.ref b1), .val (.ref b2), .val (.ref b3), .val (.ref b4), .unset, .unset, .unset, .unset] []))
      refine Runs.st (fun t' k' => XS.iload X23_.here hx rfl (hb hby at_130) rfl k') ?_
      refine Runs.st (fun t' k' => XS.iconst X23_.here hx rfl (hb hby at_132) k') ?_
      refine Runs.st (fun t' k' => XS.icmpYes X23_.here hx rfl (pc0 := 133) (pc' := 195) rfl (hb hby at_133) rfl (feq (by decide)).2 (by decide) (by decide) k') ?_
      show Runs p.tables e below _ (T23_.setTop (mkF m 195 #[.val (.int i0), .val (.int i1), .val (.int i2), .val (.int i3), .val (.int (1 : Int32)), .val (.int (3 : Int32)), .val (.int ch), .val (.ref b1), .val (.ref b2), .val (.ref b3), .val (.ref b4), .unset, .unset, .unset, .unset] []))
      refine Runs.st (fun t' k' => XS.iload X23_.here hx rfl (hb hby at_195) rfl k') ?_
      refine Runs.st (fun t' k' => XS.iconst X23_.here hx rfl (hb hby at_197) k') ?_
      refine Runs.st (fun t' k' => XS.icmpYes X23_.here hx rfl (pc0 := 198) (pc' := 278) rfl (hb hby at_198) rfl (feq (by decide)).2 (by decide) (by decide) k') ?_
      show Runs p.tables e below _ (T23_.setTop (mkF m 278 #[.val (.int i0), .val (.int i1), .val (.int i2), .val (.int i3), .val (.int (1 : Int32)), .val (.int (3 : Int32)), .val (.int ch), .val (.ref b1), .val (.ref b2), .val (.ref b3), .val (.ref b4), .unset, .unset, .unset, .unset] []))
      exact seg5 (h0 := h0) i0 i1 i2 i3 (1 : Int32) (3 : Int32) ch b1 b2 b3 b4 (nar .char (82 : Int32)) (nar .char (101 : Int32)) (nar .char (100 : Int32)) (nar .char ch) (nar .char (115 : Int32)) _ oe om s0 s1 v0 v1 kv0 kv1 zc fm (show Stand p l e room_1 (s.setVm s.vm) m _ below meth c _ _ 4 15 from (wider X23_ (c' := 4) (s' := 15) (by decide) (by decide))) hx hw hby hml hlk hret e23_ N23_ sz K hZ hown hS hk hZ0 hown0 hkeep hsn IB0 old Sc hzc Sf hfm hs10 S0 E0 Fs0 Es0 Fc0 Fv0 V0 S1 E1 Fs1 Es1 Fc1 Fv1 V1 V_b1 (by decide) (by decide) (by decide) (own_nar _ rch) (by decide)
    · skip
      show Runs p.tables e below _ (T19_.setTop (mkF m 123 #[.val (.int i0), .val (.int i1), .val (.int i2), .val (.int i3), .val (.int (1 : Int32)), .val (.int (4 : Int32)), .val (.int ch), .val (.ref b1), .val (.ref b2), .val (.ref b3), .val (.ref b4), .unset, .unset, .unset, .unset] []))
      refine Runs.st (fun t' k' => XS.aload X19_.here hx rfl (hb hby at_123) rfl rfl k') ?_
      refine Runs.st (fun t' k' => XS.iload X19_.here hx rfl (hb hby at_125) rfl k') ?_
      refine Runs.st (fun t' k' => XS.iload X19_.here hx rfl (hb hby at_127) rfl k') ?_
      obtain ⟨cl24_, Ar24_, q24_, S24_, M24_, Ha24_, G24_⟩ := V_b1
      have hin24_ : ¬ ((4 : Int32) < 0 ∨ cl24_.slots.size ≤ ((4 : Int32)).toNatClampNeg) := inb_of S24_ ⟨by decide, by decide⟩
      obtain ⟨T24_, h24_, X24_, e24_, W24_, st24_⟩ := stC X19_ hx hZ e19_ Ar24_ (j := (4 : Int32)) hin24_ (g := (mkF m 129 #[.val (.int i0), .val (.int i1), .val (.int i2), .val (.int i3), .val (.int (1 : Int32)), .val (.int (4 : Int32)), .val (.int ch), .val (.ref b1), .val (.ref b2), .val (.ref b3), .val (.ref b4), .unset, .unset, .unset, .unset] [(.int ch), (.int (4 : Int32)), (.ref b1)])) rfl rfl (hb hby at_129)
      refine Runs.st (st24_) ?_
      have V_b1 := Arv.set Ar24_ q24_ S24_ M24_ Ha24_ G24_ (fits_nar_char _) W24_ 4 rfl (Nat.le_of_ble_eq_true rfl)
      replace old := old.wr W24_ g_b1
      replace V_b2 := V_b2.other W24_ (Ne.symm ne_b1_b2)
      replace V_b3 := V_b3.other W24_ (Ne.symm ne_b1_b3)
      replace V_b4 := V_b4.other W24_ (Ne.symm ne_b1_b4)
      replace sz := Nat.le_trans sz (Keep.of_wr W24_).1
      replace hk := Nat.le_trans hk (Keep.of_wr W24_).1
      have N24_ := Fr.snoc X24_ N18_ g_b1
      replace K := K.wr W24_ (Or.inr sz_b1)
      show Runs p.tables e below _ (T24_.setTop (mkF m 130 #[.val (.int i0), .val (.int i1), .val (.int i2), .val (.int i3), .val (.int (1 : Int32)), .val (.int (4 : Int32)), .val (.int ch), .val (.ref b1), .val (.ref b2), .val (.ref b3), .val (.ref b4), .unset, .unset, .unset, .unset] []))
      refine Runs.st (fun t' k' => XS.iload X24_.here hx rfl (hb hby at_130) rfl k') ?_
      refine Runs.st (fun t' k' => XS.iconst X24_.here hx rfl (hb hby at_132) k') ?_
      refine Runs.st (fun t' k' => XS.icmpYes X24_.here hx rfl (pc0 := 133) (pc' := 195) rfl (hb hby at_133) rfl (feq (by decide)).2 (by decide) (by decide) k') ?_
      show Runs p.tables e below _ (T24_.setTop (mkF m 195 #[.val (.int i0), .val (.int i1), .val (.int i2), .val (.int i3), .val (.int (1 : Int32)), .val (.int (4 : Int32)), .val (.int ch), .val (.ref b1), .val (.ref b2), .val (.ref b3), .val (.ref b4), .unset, .unset, .unset, .unset] []))
      refine Runs.st (fun t' k' => XS.iload X24_.here hx rfl (hb hby at_195) rfl k') ?_
      refine Runs.st (fun t' k' => XS.iconst X24_.here hx rfl (hb hby at_197) k') ?_
      refine Runs.st (fun t' k' => XS.icmpYes X24_.here hx rfl (pc0 := 198) (pc' := 278) rfl (hb hby at_198) rfl (feq (by decide)).2 (by decide) (by decide) k') ?_
      show Runs p.tables e below _ (T24_.setTop (mkF m 278 #[.val (.int i0), .val (.int i1), .val (.int i2), .val (.int i3), .val (.int (1 : Int32)), .val (.int (4 : Int32)), .val (.int ch), .val (.ref b1), .val (.ref b2), .val (.ref b3), .val (.ref b4), .unset, .unset, .unset, .unset] []))
      exact seg5 (h0 := h0) i0 i1 i2 i3 (1 : Int32) (4 : Int32) ch b1 b2 b3 b4 (nar .char (82 : Int32)) (nar .char (101 : Int32)) (nar .char (100 : Int32)) (nar .char (105 : Int32)) (nar .char ch) _ oe om s0 s1 v0 v1 kv0 kv1 zc fm (show Stand p l e room_1 (s.setVm s.vm) m _ below meth c _ _ 4 15 from (wider X24_ (c' := 4) (s' := 15) (by decide) (by decide))) hx hw hby hml hlk hret e24_ N24_ sz K hZ hown hS hk hZ0 hown0 hkeep hsn IB0 old Sc hzc Sf hfm hs10 S0 E0 Fs0 Es0 Fc0 Fv0 V0 S1 E1 Fs1 Es1 Fc1 Fv1 V1 V_b1 (by decide) (by decide) (by decide) (by decide) (own_nar _ rch)
  · skip
    show Runs p.tables e below _ (T19_.setTop (mkF m 117 #[.val (.int i0), .val (.int i1), .val (.int i2), .val (.int i3), .val (.int (2 : Int32)), .val (.int ps), .val (.int ch), .val (.ref b1), .val (.ref b2), .val (.ref b3), .val (.ref b4), .unset, .unset, .unset, .unset] []))
    refine Runs.st (fun t' k' => XS.iload X19_.here hx rfl (hb hby at_117) rfl k') ?_
    refine Runs.st (fun t' k' => XS.iconst X19_.here hx rfl (hb hby at_119) k') ?_
    refine Runs.st (fun t' k' => XS.icmpYes X19_.here hx rfl (pc0 := 120) (pc' := 130) rfl (hb hby at_120) rfl (feq (by decide)).2 (by decide) (by decide) k') ?_
    show Runs p.tables e below _ (T19_.setTop (mkF m 130 #[.val (.int i0), .val (.int i1), .val (.int i2), .val (.int i3), .val (.int (2 : Int32)), .val (.int ps), .val (.int ch), .val (.ref b1), .val (.ref b2), .val (.ref b3), .val (.ref b4), .unset, .unset, .unset, .unset] []))
    refine Runs.st (fun t' k' => XS.iload X19_.here hx rfl (hb hby at_130) rfl k') ?_
    refine Runs.st (fun t' k' => XS.iconst X19_.here hx rfl (hb hby at_132) k') ?_
    refine Runs.st (fun t' k' => XS.icmpNo X19_.here hx rfl (hb hby at_133) rfl (teq rfl).2 k') ?_
    show Runs p.tables e below _ (T19_.setTop (mkF m 136 #[.val (.int i0), .val (.int i1), .val (.int i2), .val (.int i3), .val (.int (2 : Int32)), .val (.int ps), .val (.int ch), .val (.ref b1), .val (.ref b2), .val (.ref b3), .val (.ref b4), .unset, .unset, .unset, .unset] []))
    refine Runs.st (fun t' k' => XS.aload X19_.here hx rfl (hb hby at_136) rfl rfl k') ?_
    refine Runs.st (fun t' k' => XS.iconst X19_.here hx rfl (hb hby at_138) k') ?_
    refine Runs.st (fun t' k' => XS.iloadN X19_.here hx rfl (hb hby at_139) rfl k') ?_
    refine Runs.st (fun t' k' => XS.sipush X19_.here hx rfl (hb hby at_140) k') ?_
    refine Runs.st (fun t' k' => XS.iand X19_.here hx rfl (hb hby at_143) rfl k') ?_
    show Runs p.tables e below _ (T19_.setTop (mkF m 144 #[.val (.int i0), .val (.int i1), .val (.int i2), .val (.int i3), .val (.int (2 : Int32)), .val (.int ps), .val (.int ch), .val (.ref b1), .val (.ref b2), .val (.ref b3), .val (.ref b4), .unset, .unset, .unset, .unset] [(.int (i2 &&& (255 : Int32))), (.int (0 : Int32)), (.ref b1)]))
    refine Runs.st (fun t' k' => XS.i2c X19_.here hx rfl (hb hby at_144) rfl k') ?_
    obtain ⟨cl25_, Ar25_, q25_, S25_, M25_, Ha25_, G25_⟩ := V_b1
    have hin25_ : ¬ ((0 : Int32) < 0 ∨ cl25_.slots.size ≤ ((0 : Int32)).toNatClampNeg) := inb_of S25_ ⟨by decide, by decide⟩
    obtain ⟨T25_, h25_, X25_, e25_, W25_, st25_⟩ := stC X19_ hx hZ e19_ Ar25_ (j := (0 : Int32)) hin25_ (g := (mkF m 145 #[.val (.int i0), .val (.int i1), .val (.int i2), .val (.int i3), .val (.int (2 : Int32)), .val (.int ps), .val (.int ch), .val (.ref b1), .val (.ref b2), .val (.ref b3), .val (.ref b4), .unset, .unset, .unset, .unset] [(.int ((i2 &&& (255 : Int32)).toUInt32.toUInt16.toUInt32.toInt32)), (.int (0 : Int32)), (.ref b1)])) rfl rfl (hb hby at_145)
    refine Runs.st (st25_) ?_
    have V_b1 := Arv.set Ar25_ q25_ S25_ M25_ Ha25_ G25_ (fits_nar_char _) W25_ 0 rfl (Nat.le_of_ble_eq_true rfl)
    replace old := old.wr W25_ g_b1
    replace V_b2 := V_b2.other W25_ (Ne.symm ne_b1_b2)
    replace V_b3 := V_b3.other W25_ (Ne.symm ne_b1_b3)
    replace V_b4 := V_b4.other W25_ (Ne.symm ne_b1_b4)
    replace sz := Nat.le_trans sz (Keep.of_wr W25_).1
    replace hk := Nat.le_trans hk (Keep.of_wr W25_).1
    have N25_ := Fr.snoc X25_ N18_ g_b1
    replace K := K.wr W25_ (Or.inr sz_b1)
    show Runs p.tables e below _ (T25_.setTop (mkF m 146 #[.val (.int i0), .val (.int i1), .val (.int i2), .val (.int i3), .val (.int (2 : Int32)), .val (.int ps), .val (.int ch), .val (.ref b1), .val (.ref b2), .val (.ref b3), .val (.ref b4), .unset, .unset, .unset, .unset] []))
    refine Runs.st (fun t' k' => XS.aload X25_.here hx rfl (hb hby at_146) rfl rfl k') ?_
    refine Runs.st (fun t' k' => XS.iconst X25_.here hx rfl (hb hby at_148) k') ?_
    refine Runs.st (fun t' k' => XS.iloadN X25_.here hx rfl (hb hby at_149) rfl k') ?_
    refine Runs.st (fun t' k' => XS.bipush X25_.here hx rfl (hb hby at_150) k') ?_
    refine Runs.st (fun t' k' => XS.iushr X25_.here hx rfl (hb hby at_152) rfl k') ?_
    show Runs p.tables e below _ (T25_.setTop (mkF m 153 #[.val (.int i0), .val (.int i1), .val (.int i2), .val (.int i3), .val (.int (2 : Int32)), .val (.int ps), .val (.int ch), .val (.ref b1), .val (.ref b2), .val (.ref b3), .val (.ref b4), .unset, .unset, .unset, .unset] [(.int ((i2.toUInt32 >>> ((8 : Int32) &&& 31).toUInt32).toInt32)), (.int (1 : Int32)), (.ref b1)]))
    refine Runs.st (fun t' k' => XS.sipush X25_.here hx rfl (hb hby at_153) k') ?_
    refine Runs.st (fun t' k' => XS.iand X25_.here hx rfl (hb hby at_156) rfl k') ?_
    refine Runs.st (fun t' k' => XS.i2c X25_.here hx rfl (hb hby at_157) rfl k') ?_
    obtain ⟨cl26_, Ar26_, q26_, S26_, M26_, Ha26_, G26_⟩ := V_b1
    have hin26_ : ¬ ((1 : Int32) < 0 ∨ cl26_.slots.size ≤ ((1 : Int32)).toNatClampNeg) := inb_of S26_ ⟨by decide, by decide⟩
    obtain ⟨T26_, h26_, X26_, e26_, W26_, st26_⟩ := stC X25_ hx hZ e25_ Ar26_ (j := (1 : Int32)) hin26_ (g := (mkF m 158 #[.val (.int i0), .val (.int i1), .val (.int i2), .val (.int i3), .val (.int (2 : Int32)), .val (.int ps), .val (.int ch), .val (.ref b1), .val (.ref b2), .val (.ref b3), .val (.ref b4), .unset, .unset, .unset, .unset] [(.int ((((i2.toUInt32 >>> ((8 : Int32) &&& 31).toUInt32).toInt32) &&& (255 : Int32)).toUInt32.toUInt16.toUInt32.toInt32)), (.int (1 : Int32)), (.ref b1)])) rfl rfl (hb hby at_158)
    refine Runs.st (st26_) ?_
    have V_b1 := Arv.set Ar26_ q26_ S26_ M26_ Ha26_ G26_ (fits_nar_char _) W26_ 1 rfl (Nat.le_of_ble_eq_true rfl)
    replace old := old.wr W26_ g_b1
    replace V_b2 := V_b2.other W26_ (Ne.symm ne_b1_b2)
    replace V_b3 := V_b3.other W26_ (Ne.symm ne_b1_b3)
    replace V_b4 := V_b4.other W26_ (Ne.symm ne_b1_b4)
    replace sz := Nat.le_trans sz (Keep.of_wr W26_).1
    replace hk := Nat.le_trans hk (Keep.of_wr W26_).1
    have N26_ := Fr.snoc X26_ N25_ g_b1
    replace K := K.wr W26_ (Or.inr sz_b1)
    show Runs p.tables e below _ (T26_.setTop (mkF m 159 #[.val (.int i0), .val (.int i1), .val (.int i2), .val (.int i3), .val (.int (2 : Int32)), .val (.int ps), .val (.int ch), .val (.ref b1), .val (.ref b2), .val (.ref b3), .val (.ref b4), .unset, .unset, .unset, .unset] []))
    refine Runs.st (fun t' k' => XS.aload X26_.here hx rfl (hb hby at_159) rfl rfl k') ?_
    refine Runs.st (fun t' k' => XS.iconst X26_.here hx rfl (hb hby at_161) k') ?_
    refine Runs.st (fun t' k' => XS.iloadN X26_.here hx rfl (hb hby at_162) rfl k') ?_
    refine Runs.st (fun t' k' => XS.bipush X26_.here hx rfl (hb hby at_163) k') ?_
    refine Runs.st (fun t' k' => XS.iushr X26_.here hx rfl (hb hby at_165) rfl k') ?_
    show Runs p.tables e below _ (T26_.setTop (mkF m 166 #[.val (.int i0), .val (.int i1), .val (.int i2), .val (.int i3), .val (.int (2 : Int32)), .val (.int ps), .val (.int ch), .val (.ref b1), .val (.ref b2), .val (.ref b3), .val (.ref b4), .unset, .unset, .unset, .unset] [(.int ((i2.toUInt32 >>> ((16 : Int32) &&& 31).toUInt32).toInt32)), (.int (2 : Int32)), (.ref b1)]))
    refine Runs.st (fun t' k' => XS.sipush X26_.here hx rfl (hb hby at_166) k') ?_
    refine Runs.st (fun t' k' => XS.iand X26_.here hx rfl (hb hby at_169) rfl k') ?_
    refine Runs.st (fun t' k' => XS.i2c X26_.here hx rfl (hb hby at_170) rfl k') ?_
    obtain ⟨cl27_, Ar27_, q27_, S27_, M27_, Ha27_, G27_⟩ := V_b1
    have hin27_ : ¬ ((2 : Int32) < 0 ∨ cl27_.slots.size ≤ ((2 : Int32)).toNatClampNeg) := inb_of S27_ ⟨by decide, by decide⟩
    obtain ⟨T27_, h27_, X27_, e27_, W27_, st27_⟩ := stC X26_ hx hZ e26_ Ar27_ (j := (2 : Int32)) hin27_ (g := (mkF m 171 #[.val (.int i0), .val (.int i1), .val (.int i2), .val (.int i3), .val (.int (2 : Int32)), .val (.int ps), .val (.int ch), .val (.ref b1), .val (.ref b2), .val (.ref b3), .val (.ref b4), .unset, .unset, .unset, .unset] [(.int ((((i2.toUInt32 >>> ((16 : Int32) &&& 31).toUInt32).toInt32) &&& (255 : Int32)).toUInt32.toUInt16.toUInt32.toInt32)), (.int (2 : Int32)), (.ref b1)])) rfl rfl (hb hby at_171)
    refine Runs.st (st27_) ?_
    have V_b1 := Arv.set Ar27_ q27_ S27_ M27_ Ha27_ G27_ (fits_nar_char _) W27_ 2 rfl (Nat.le_of_ble_eq_true rfl)
    replace old := old.wr W27_ g_b1
    replace V_b2 := V_b2.other W27_ (Ne.symm ne_b1_b2)
    replace V_b3 := V_b3.other W27_ (Ne.symm ne_b1_b3)
    replace V_b4 := V_b4.other W27_ (Ne.symm ne_b1_b4)
    replace sz := Nat.le_trans sz (Keep.of_wr W27_).1
    replace hk := Nat.le_trans hk (Keep.of_wr W27_).1
    have N27_ := Fr.snoc X27_ N26_ g_b1
    replace K := K.wr W27_ (Or.inr sz_b1)
    show Runs p.tables e below _ (T27_.setTop (mkF m 172 #[.val (.int i0), .val (.int i1), .val (.int i2), .val (.int i3), .val (.int (2 : Int32)), .val (.int ps), .val (.int ch), .val (.ref b1), .val (.ref b2), .val (.ref b3), .val (.ref b4), .unset, .unset, .unset, .unset] []))
    refine Runs.st (fun t' k' => XS.aload X27_.here hx rfl (hb hby at_172) rfl rfl k') ?_
    refine Runs.st (fun t' k' => XS.iconst X27_.here hx rfl (hb hby at_174) k') ?_
    refine Runs.st (fun t' k' => XS.iloadN X27_.here hx rfl (hb hby at_175) rfl k') ?_
    refine Runs.st (fun t' k' => XS.bipush X27_.here hx rfl (hb hby at_176) k') ?_
    refine Runs.st (fun t' k' => XS.iushr X27_.here hx rfl (hb hby at_178) rfl k') ?_
    show Runs p.tables e below _ (T27_.setTop (mkF m 179 #[.val (.int i0), .val (.int i1), .val (.int i2), .val (.int i3), .val (.int (2 : Int32)), .val (.int ps), .val (.int ch), .val (.ref b1), .val (.ref b2), .val (.ref b3), .val (.ref b4), .unset, .unset, .unset, .unset] [(.int ((i2.toUInt32 >>> ((24 : Int32) &&& 31).toUInt32).toInt32)), (.int (3 : Int32)), (.ref b1)]))
    refine Runs.st (fun t' k' => XS.sipush X27_.here hx rfl (hb hby at_179) k') ?_
    refine Runs.st (fun t' k' => XS.iand X27_.here hx rfl (hb hby at_182) rfl k') ?_
    refine Runs.st (fun t' k' => XS.i2c X27_.here hx rfl (hb hby at_183) rfl k') ?_
    obtain ⟨cl28_, Ar28_, q28_, S28_, M28_, Ha28_, G28_⟩ := V_b1
    have hin28_ : ¬ ((3 : Int32) < 0 ∨ cl28_.slots.size ≤ ((3 : Int32)).toNatClampNeg) := inb_of S28_ ⟨by decide, by decide⟩
    obtain ⟨T28_, h28_, X28_, e28_, W28_, st28_⟩ := stC X27_ hx hZ e27_ Ar28_ (j := (3 : Int32)) hin28_ (g := (mkF m 184 #[.val (.int i0), .val (.int i1), .val (.int i2), .val (.int i3), .val (.int (2 : Int32)), .val (.int ps), .val (.int ch), .val (.ref b1), .val (.ref b2), .val (.ref b3), .val (.ref b4), .unset, .unset, .unset, .unset] [(.int ((((i2.toUInt32 >>> ((24 : Int32) &&& 31).toUInt32).toInt32) &&& (255 : Int32)).toUInt32.toUInt16.toUInt32.toInt32)), (.int (3 : Int32)), (.ref b1)])) rfl rfl (hb hby at_184)
    refine Runs.st (st28_) ?_
    have V_b1 := Arv.set Ar28_ q28_ S28_ M28_ Ha28_ G28_ (fits_nar_char _) W28_ 3 rfl (Nat.le_of_ble_eq_true rfl)
    replace old := old.wr W28_ g_b1
    replace V_b2 := V_b2.other W28_ (Ne.symm ne_b1_b2)
    replace V_b3 := V_b3.other W28_ (Ne.symm ne_b1_b3)
    replace V_b4 := V_b4.other W28_ (Ne.symm ne_b1_b4)
    replace sz := Nat.le_trans sz (Keep.of_wr W28_).1
    replace hk := Nat.le_trans hk (Keep.of_wr W28_).1
    have N28_ := Fr.snoc X28_ N27_ g_b1
    replace K := K.wr W28_ (Or.inr sz_b1)
    show Runs p.tables e below _ (T28_.setTop (mkF m 185 #[.val (.int i0), .val (.int i1), .val (.int i2), .val (.int i3), .val (.int (2 : Int32)), .val (.int ps), .val (.int ch), .val (.ref b1), .val (.ref b2), .val (.ref b3), .val (.ref b4), .unset, .unset, .unset, .unset] []))
    refine Runs.st (fun t' k' => XS.aload X28_.here hx rfl (hb hby at_185) rfl rfl k') ?_
    refine Runs.st (fun t' k' => XS.iconst X28_.here hx rfl (hb hby at_187) k') ?_
    refine Runs.st (fun t' k' => XS.iloadN X28_.here hx rfl (hb hby at_188) rfl k') ?_
    refine Runs.st (fun t' k' => XS.sipush X28_.here hx rfl (hb hby at_189) k') ?_
    refine Runs.st (fun t' k' => XS.iand X28_.here hx rfl (hb hby at_192) rfl k') ?_
    show Runs p.tables e below _ (T28_.setTop (mkF m 193 #[.val (.int i0), .val (.int i1), .val (.int i2), .val (.int i3), .val (.int (2 : Int32)), .val (.int ps), .val (.int ch), .val (.ref b1), .val (.ref b2), .val (.ref b3), .val (.ref b4), .unset, .unset, .unset, .unset] [(.int (i3 &&& (255 : Int32))), (.int (4 : Int32)), (.ref b1)]))
    refine Runs.st (fun t' k' => XS.i2c X28_.here hx rfl (hb hby at_193) rfl k') ?_
    obtain ⟨cl29_, Ar29_, q29_, S29_, M29_, Ha29_, G29_⟩ := V_b1
    have hin29_ : ¬ ((4 : Int32) < 0 ∨ cl29_.slots.size ≤ ((4 : Int32)).toNatClampNeg) := inb_of S29_ ⟨by decide, by decide⟩
    obtain ⟨T29_, h29_, X29_, e29_, W29_, st29_⟩ := stC X28_ hx hZ e28_ Ar29_ (j := (4 : Int32)) hin29_ (g := (mkF m 194 #[.val (.int i0), .val (.int i1), .val (.int i2), .val (.int i3), .val (.int (2 : Int32)), .val (.int ps), .val (.int ch), .val (.ref b1), .val (.ref b2), .val (.ref b3), .val (.ref b4), .unset, .unset, .unset, .unset] [(.int ((i3 &&& (255 : Int32)).toUInt32.toUInt16.toUInt32.toInt32)), (.int (4 : Int32)), (.ref b1)])) rfl rfl (hb hby at_194)
    refine Runs.st (st29_) ?_
    have V_b1 := Arv.set Ar29_ q29_ S29_ M29_ Ha29_ G29_ (fits_nar_char _) W29_ 4 rfl (Nat.le_of_ble_eq_true rfl)
    replace old := old.wr W29_ g_b1
    replace V_b2 := V_b2.other W29_ (Ne.symm ne_b1_b2)
    replace V_b3 := V_b3.other W29_ (Ne.symm ne_b1_b3)
    replace V_b4 := V_b4.other W29_ (Ne.symm ne_b1_b4)
    replace sz := Nat.le_trans sz (Keep.of_wr W29_).1
    replace hk := Nat.le_trans hk (Keep.of_wr W29_).1
    have N29_ := Fr.snoc X29_ N28_ g_b1
    replace K := K.wr W29_ (Or.inr sz_b1)
    show Runs p.tables e below _ (T29_.setTop (mkF m 195 #[.val (.int i0), .val (.int i1), .val (.int i2), .val (.int i3), .val (.int (2 : Int32)), .val (.int ps), .val (.int ch), .val (.ref b1), .val (.ref b2), .val (.ref b3), .val (.ref b4), .unset, .unset, .unset, .unset] []))
    refine Runs.st (fun t' k' => XS.iload X29_.here hx rfl (hb hby at_195) rfl k') ?_
    refine Runs.st (fun t' k' => XS.iconst X29_.here hx rfl (hb hby at_197) k') ?_
    refine Runs.st (fun t' k' => XS.icmpYes X29_.here hx rfl (pc0 := 198) (pc' := 278) rfl (hb hby at_198) rfl (feq (by decide)).2 (by decide) (by decide) k') ?_
    show Runs p.tables e below _ (T29_.setTop (mkF m 278 #[.val (.int i0), .val (.int i1), .val (.int i2), .val (.int i3), .val (.int (2 : Int32)), .val (.int ps), .val (.int ch), .val (.ref b1), .val (.ref b2), .val (.ref b3), .val (.ref b4), .unset, .unset, .unset, .unset] []))
    exact seg5 (h0 := h0) i0 i1 i2 i3 (2 : Int32) ps ch b1 b2 b3 b4 (nar .char ((i2 &&& (255 : Int32)).toUInt32.toUInt16.toUInt32.toInt32)) (nar .char ((((i2.toUInt32 >>> ((8 : Int32) &&& 31).toUInt32).toInt32) &&& (255 : Int32)).toUInt32.toUInt16.toUInt32.toInt32)) (nar .char ((((i2.toUInt32 >>> ((16 : Int32) &&& 31).toUInt32).toInt32) &&& (255 : Int32)).toUInt32.toUInt16.toUInt32.toInt32)) (nar .char ((((i2.toUInt32 >>> ((24 : Int32) &&& 31).toUInt32).toInt32) &&& (255 : Int32)).toUInt32.toUInt16.toUInt32.toInt32)) (nar .char ((i3 &&& (255 : Int32)).toUInt32.toUInt16.toUInt32.toInt32)) _ oe om s0 s1 v0 v1 kv0 kv1 zc fm (show Stand p l e room_1 (s.setVm s.vm) m _ below meth c _ _ 4 15 from (wider X29_ (c' := 4) (s' := 15) (by decide) (by decide))) hx hw hby hml hlk hret e29_ N29_ sz K hZ hown hS hk hZ0 hown0 hkeep hsn IB0 old Sc hzc Sf hfm hs10 S0 E0 Fs0 Es0 Fc0 Fv0 V0 S1 E1 Fs1 Es1 Fc1 Fv1 V1 V_b1 (own_nar _ (own_i2c _)) (own_nar _ (own_i2c _)) (own_nar _ (own_i2c _)) (own_nar _ (own_i2c _)) (own_nar _ (own_i2c _))
  · skip
    show Runs p.tables e below _ (T19_.setTop (mkF m 117 #[.val (.int i0), .val (.int i1), .val (.int i2), .val (.int i3), .val (.int (3 : Int32)), .val (.int ps), .val (.int ch), .val (.ref b1), .val (.ref b2), .val (.ref b3), .val (.ref b4), .unset, .unset, .unset, .unset] []))
    refine Runs.st (fun t' k' => XS.iload X19_.here hx rfl (hb hby at_117) rfl k') ?_
    refine Runs.st (fun t' k' => XS.iconst X19_.here hx rfl (hb hby at_119) k') ?_
    refine Runs.st (fun t' k' => XS.icmpYes X19_.here hx rfl (pc0 := 120) (pc' := 130) rfl (hb hby at_120) rfl (feq (by decide)).2 (by decide) (by decide) k') ?_
    show Runs p.tables e below _ (T19_.setTop (mkF m 130 #[.val (.int i0), .val (.int i1), .val (.int i2), .val (.int i3), .val (.int (3 : Int32)), .val (.int ps), .val (.int ch), .val (.ref b1), .val (.ref b2), .val (.ref b3), .val (.ref b4), .unset, .unset, .unset, .unset] []))
    refine Runs.st (fun t' k' => XS.iload X19_.here hx rfl (hb hby at_130) rfl k') ?_
    refine Runs.st (fun t' k' => XS.iconst X19_.here hx rfl (hb hby at_132) k') ?_
    refine Runs.st (fun t' k' => XS.icmpYes X19_.here hx rfl (pc0 := 133) (pc' := 195) rfl (hb hby at_133) rfl (feq (by decide)).2 (by decide) (by decide) k') ?_
    show Runs p.tables e below _ (T19_.setTop (mkF m 195 #[.val (.int i0), .val (.int i1), .val (.int i2), .val (.int i3), .val (.int (3 : Int32)), .val (.int ps), .val (.int ch), .val (.ref b1), .val (.ref b2), .val (.ref b3), .val (.ref b4), .unset, .unset, .unset, .unset] []))
    refine Runs.st (fun t' k' => XS.iload X19_.here hx rfl (hb hby at_195) rfl k') ?_
    refine Runs.st (fun t' k' => XS.iconst X19_.here hx rfl (hb hby at_197) k') ?_
    refine Runs.st (fun t' k' => XS.icmpNo X19_.here hx rfl (hb hby at_198) rfl (teq rfl).2 k') ?_
    show Runs p.tables e below _ (T19_.setTop (mkF m 201 #[.val (.int i0), .val (.int i1), .val (.int i2), .val (.int i3), .val (.int (3 : Int32)), .val (.int ps), .val (.int ch), .val (.ref b1), .val (.ref b2), .val (.ref b3), .val (.ref b4), .unset, .unset, .unset, .unset] []))
    refine Runs.st (fun t' k' => XS.iloadN X19_.here hx rfl (hb hby at_201) rfl k') ?_
    refine Runs.st (fun t' k' => XS.bipush X19_.here hx rfl (hb hby at_202) k') ?_
    refine Runs.st (fun t' k' => XS.iushr X19_.here hx rfl (hb hby at_204) rfl k') ?_
    refine Runs.st (fun t' k' => XS.iconst X19_.here hx rfl (hb hby at_205) k') ?_
    refine Runs.st (fun t' k' => XS.iand X19_.here hx rfl (hb hby at_206) rfl k') ?_
    show Runs p.tables e below _ (T19_.setTop (mkF m 207 #[.val (.int i0), .val (.int i1), .val (.int i2), .val (.int i3), .val (.int (3 : Int32)), .val (.int ps), .val (.int ch), .val (.ref b1), .val (.ref b2), .val (.ref b3), .val (.ref b4), .unset, .unset, .unset, .unset] [(.int (((i3.toUInt32 >>> ((8 : Int32) &&& 31).toUInt32).toInt32) &&& (3 : Int32)))]))
    show Runs p.tables e below _ (T19_.setTop (mkF m 207 #[.val (.int i0), .val (.int i1), .val (.int i2), .val (.int i3), .val (.int (3 : Int32)), .val (.int ps), .val (.int ch), .val (.ref b1), .val (.ref b2), .val (.ref b3), .val (.ref b4), .unset, .unset, .unset, .unset] [(.int (((i3.toUInt32 >>> ((8 : Int32) &&& 31).toUInt32).toInt32) &&& (3 : Int32)))]))
    obtain ⟨kk, hkk⟩ : ∃ z : Int32, z = (((i3.toUInt32 >>> ((8 : Int32) &&& 31).toUInt32).toInt32) &&& (3 : Int32)) := ⟨_, rfl⟩
    rw [← hkk]
    show Runs p.tables e below _ (T19_.setTop (mkF m 207 #[.val (.int i0), .val (.int i1), .val (.int i2), .val (.int i3), .val (.int (3 : Int32)), .val (.int ps), .val (.int ch), .val (.ref b1), .val (.ref b2), .val (.ref b3), .val (.ref b4), .unset, .unset, .unset, .unset] [(.int kk)]))
    have hk4 : kk = 0 ∨ kk = 1 ∨ kk = 2 ∨ kk = 3 := by
      have a : (((i3.toUInt32 >>> ((8 : Int32) &&& 31).toUInt32).toInt32) &&& (3 : Int32)).toInt = ((i3.toUInt32 >>> ((8 : Int32) &&& 31).toUInt32).toInt32).toInt % 2 ^ 2 := Jvm.Kit.i32_mask _ 3 (k := 2) (by decide) (by decide)
      rw [← Int32.toInt_inj, ← Int32.toInt_inj, ← Int32.toInt_inj, ← Int32.toInt_inj, hkk, a]
      change _ = (0 : Int) ∨ _ = (1 : Int) ∨ _ = (2 : Int) ∨ _ = (3 : Int)
      omega
    rcases hk4 with rfl | rfl | rfl | rfl
    · skip
      show Runs p.tables e below _ (T19_.setTop (mkF m 207 #[.val (.int i0), .val (.int i1), .val (.int i2), .val (.int i3), .val (.int (3 : Int32)), .val (.int ps), .val (.int ch), .val (.ref b1), .val (.ref b2), .val (.ref b3), .val (.ref b4), .unset, .unset, .unset, .unset] [(.int (0 : Int32))]))
      refine Runs.st (fun t' k' => XS.istore X19_.here hx rfl (hb hby at_207) rfl (l' := #[.val (.int i0), .val (.int i1), .val (.int i2), .val (.int i3), .val (.int (3 : Int32)), .val (.int ps), .val (.int ch), .val (.ref b1), .val (.ref b2), .val (.ref b3), .val (.ref b4), .unset, .val (.int (0 : Int32)), .unset, .unset]) rfl k') ?_
      refine Runs.st (fun t' k' => XS.iload X19_.here hx rfl (hb hby at_209) rfl k') ?_
      refine Runs.st (fun t' k' => XS.ifNo X19_.here hx rfl (hb hby at_211) rfl ((if0 _ _).trans (teq rfl).2) k') ?_
      show Runs p.tables e below _ (T19_.setTop (mkF m 214 #[.val (.int i0), .val (.int i1), .val (.int i2), .val (.int i3), .val (.int (3 : Int32)), .val (.int ps), .val (.int ch), .val (.ref b1), .val (.ref b2), .val (.ref b3), .val (.ref b4), .unset, .val (.int (0 : Int32)), .unset, .unset] []))
      obtain ⟨T30_, h30_, X30_, e30_, E30_, A30_, D30_, -, st30_⟩ := newO X19_ hx hZ hown (hw _ (List.mem_of_getElem? (i := 2) rfl)) (hw _ (List.mem_of_getElem? (i := 3) rfl)) (hw _ (List.mem_of_getElem? (i := 4) rfl)) e19_ (g := (mkF m 214 #[.val (.int i0), .val (.int i1), .val (.int i2), .val (.int i3), .val (.int (3 : Int32)), .val (.int ps), .val (.int ch), .val (.ref b1), .val (.ref b2), .val (.ref b3), .val (.ref b4), .unset, .val (.int (0 : Int32)), .unset, .unset] [])) rfl (hb hby at_214) (by decide) (by decide)
      refine Runs.st (st30_) ?_
      obtain ⟨b5, g30_⟩ : ∃ z, z = h19_.size := ⟨_, rfl⟩
      rw [← g30_] at A30_ D30_
      try rw [← g30_]
      have g_b5 : n0 ≤ b5 := Nat.le_trans sz (Nat.le_of_eq g30_.symm)
      have sz_b5 : h0.size ≤ b5 := Nat.le_trans K.1 (Nat.le_of_eq g30_.symm)
      have ne_b1_b5 : b1 ≠ b5 := Nat.ne_of_lt (Nat.lt_of_lt_of_le V_b1.lt (Nat.le_of_eq g30_.symm))
      have ne_b2_b5 : b2 ≠ b5 := Nat.ne_of_lt (Nat.lt_of_lt_of_le V_b2.lt (Nat.le_of_eq g30_.symm))
      have ne_b3_b5 : b3 ≠ b5 := Nat.ne_of_lt (Nat.lt_of_lt_of_le V_b3.lt (Nat.le_of_eq g30_.symm))
      have ne_b4_b5 : b4 ≠ b5 := Nat.ne_of_lt (Nat.lt_of_lt_of_le V_b4.lt (Nat.le_of_eq g30_.symm))
      replace old := old.ext E30_
      replace V_b1 := V_b1.ext E30_
      replace V_b2 := V_b2.ext E30_
      replace V_b3 := V_b3.ext E30_
      replace V_b4 := V_b4.ext E30_
      replace sz := Nat.le_trans sz E30_.1
      replace K := K.ext E30_
      replace hk := Nat.le_trans hk E30_.1
      have E_b5 := A30_
      have F_b5_coder : Fld Z h30_ b5 "java/lang/String" "coder" "B" (.int (0 : Int32)) := D30_ (Or.inr (hw _ (List.mem_of_getElem? (i := 28) rfl))) (ty := .byte) (by decide)
      have F_b5_value : Fld Z h30_ b5 "java/lang/String" "value" "[B" .null := D30_ (Or.inr (hw _ (List.mem_of_getElem? (i := 30) rfl))) (ty := (.array .byte)) (by decide)
      show Runs p.tables e below _ (T30_.setTop (mkF m 217 #[.val (.int i0), .val (.int i1), .val (.int i2), .val (.int i3), .val (.int (3 : Int32)), .val (.int ps), .val (.int ch), .val (.ref b1), .val (.ref b2), .val (.ref b3), .val (.ref b4), .unset, .val (.int (0 : Int32)), .unset, .unset] [(.ref b5)]))
      refine Runs.st (fun t' k' => XS.dup X30_.here hx rfl (hb hby at_217) rfl rfl k') ?_
      refine Runs.st (fun t' k' => XS.aload X30_.here hx rfl (hb hby at_218) rfl rfl k') ?_
      have kz31_ := K.1
      have gz31_ := sz
      have lt31__b1 := V_b1.lt
      have lt31__b2 := V_b2.lt
      have lt31__b3 := V_b3.lt
      have lt31__b4 := V_b4.lt
      have lt31__b5 := E_b5.lt
      obtain ⟨_, _, ⟨T31_, L31_, k31_, n31_⟩, -, X31_, ⟨Lc31_, hQ31_, l31_, y31_, z31_⟩, st31_⟩ := X30_.specialBack hx (y := (⟨"java/lang/String", "<init>", "([C)V"⟩ : MethodName)) rfl hown (mvT hZ (hw _ (List.mem_of_getElem? (i := 5) rfl))) (mvT hZ (hw _ (List.mem_of_getElem? (i := 6) rfl))) (mvT hZ (hw _ (List.mem_of_getElem? (i := 7) rfl))) (by decide) (backOf (W := 1) (rmIC6 l Z a0 hw [] b5 b2 (nar .char (82 : Int32)) (nar .char (101 : Int32)) (nar .char (100 : Int32)) (nar .char (105 : Int32)) (nar .char (115 : Int32)) (nar .char ch) _ zc h30_ n0 sz E_b5 F_b5_value F_b5_coder g_b5 V_b2 (Sc.ext old.2) hzc (by decide) (by decide) (by decide) (by decide) (by decide) (own_u _ (own_nar _ rch))) hZ (hw _ (List.mem_of_getElem? (i := 7) rfl)) (hw _ (List.mem_of_getElem? (i := 4) rfl)) (by decide) (by decide)) (g := (mkF m 220 #[.val (.int i0), .val (.int i1), .val (.int i2), .val (.int i3), .val (.int (3 : Int32)), .val (.int ps), .val (.int ch), .val (.ref b1), .val (.ref b2), .val (.ref b3), .val (.ref b4), .unset, .val (.int (0 : Int32)), .unset, .unset] [(.ref b2), (.ref b5), (.ref b5)])) rfl (by rw [hml]; rfl) (Steps.refl _) (a := b5) (argsL := [(.ref b2)]) (rest := [(.ref b5)]) (lenOf pd__28_5bC_29V rfl) rfl (by show 2 * 0 + _ ≤ _; exact Nat.le_of_eq rfl) (hb hby at_220) (fun _ _ => ⟨rfl, e30_, (by decide : 5 + 1 ≤ _), (by decide : 19 + 6 ≤ _)⟩)
      dsimp only [Pt.U, Pt.locs, Pt.cells, Pt.slots] at X31_ l31_ y31_ z31_ st31_ hQ31_
      subst l31_ y31_ z31_
      obtain ⟨rfl, N31_q, K31_, E_b5, Fc_b5, b6, kb6, szb, Fv_b5, V_b6⟩ := hQ31_
      have N31_ := Fr.app N18_ N31_q
      refine Runs.tr st31_ ?_
      replace X31_ := wider X31_ (c' := 6) (s' := 25) (by decide) (by decide)
      replace old := old.keep K31_ (allS g_b5 all0)
      replace V_b1 := V_b1.keep K31_ (ninS ne_b1_b5 nin0)
      replace V_b2 := V_b2.keep K31_ (ninS ne_b2_b5 nin0)
      replace V_b3 := V_b3.keep K31_ (ninS ne_b3_b5 nin0)
      replace V_b4 := V_b4.keep K31_ (ninS ne_b4_b5 nin0)
      replace sz := Nat.le_trans sz K31_.1
      replace hk := Nat.le_trans hk K31_.1
      replace K := K.trans K31_ (allS (Or.inr sz_b5) all0)
      have sz_b6 : h0.size ≤ b6 := Nat.le_trans kz31_ szb
      have g_b6 : n0 ≤ b6 := Nat.le_trans gz31_ szb
      have ne_b1_b6 : b1 ≠ b6 := Nat.ne_of_lt (Nat.lt_of_lt_of_le lt31__b1 szb)
      have ne_b2_b6 : b2 ≠ b6 := Nat.ne_of_lt (Nat.lt_of_lt_of_le lt31__b2 szb)
      have ne_b3_b6 : b3 ≠ b6 := Nat.ne_of_lt (Nat.lt_of_lt_of_le lt31__b3 szb)
      have ne_b4_b6 : b4 ≠ b6 := Nat.ne_of_lt (Nat.lt_of_lt_of_le lt31__b4 szb)
      have ne_b5_b6 : b5 ≠ b6 := Nat.ne_of_lt (Nat.lt_of_lt_of_le lt31__b5 szb)
      show Runs p.tables e below _ (T31_.setTop (mkF m 223 #[.val (.int i0), .val (.int i1), .val (.int i2), .val (.int i3), .val (.int (3 : Int32)), .val (.int ps), .val (.int ch), .val (.ref b1), .val (.ref b2), .val (.ref b3), .val (.ref b4), .unset, .val (.int (0 : Int32)), .unset, .unset] [(.ref b5)]))
      refine Runs.st (fun t' k' => XS.astore X31_.here hx rfl (hb hby at_223) rfl rfl (l' := #[.val (.int i0), .val (.int i1), .val (.int i2), .val (.int i3), .val (.int (3 : Int32)), .val (.int ps), .val (.int ch), .val (.ref b1), .val (.ref b2), .val (.ref b3), .val (.ref b4), .val (.ref b5), .val (.int (0 : Int32)), .unset, .unset]) rfl k') ?_
      refine Runs.st (fun t' k' => XS.goto X31_.here hx rfl (pc0 := 225) (pc' := 275) rfl (hb hby at_225) (by decide) (by decide) k') ?_
      refine Runs.st (fun t' k' => XS.goto X31_.here hx rfl (pc0 := 275) (pc' := 289) rfl (hb hby at_275) (by decide) (by decide) k') ?_
      refine Runs.st (fun t' k' => XS.aload X31_.here hx rfl (hb hby at_289) rfl rfl k') ?_
      obtain ⟨cq32_, kq32_, q32_a, q32_b, q32_c⟩ := isOf hZ rfl E_b5
      obtain ⟨_, _, ⟨T32_, L32_, k32_, n32_⟩, -, X32_, ⟨Lc32_, hQ32_, l32_, y32_, z32_⟩, st32_⟩ := X31_.virtualBack hx (y := (⟨"java/lang/String", "length", "()I"⟩ : MethodName)) (z := (⟨"java/lang/String", "length", "()I"⟩ : MethodName)) hown (mvT hZ (hw _ (List.mem_of_getElem? (i := 31) rfl))) (mvT hZ (hw _ (List.mem_of_getElem? (i := 32) rfl))) (notFace_of_selects (args := #[]) (mvT hZ (hw _ (List.mem_of_getElem? (i := 34) rfl)))) (mvT hZ (hw _ (List.mem_of_getElem? (i := 34) rfl))) (mvT hZ (hw _ (List.mem_of_getElem? (i := 33) rfl))) (by decide) (backOf (W := 0) (rmLen l Z a0 hw [] b5 zc b6 (6 : Int32) _ _ (6 : Int32) T31_.heap n0 sz E_b5 (Sc.ext old.2) hzc Fc_b5 Fv_b5 V_b6 (by decide)) hZ (hw _ (List.mem_of_getElem? (i := 35) rfl)) (hw _ (List.mem_of_getElem? (i := 4) rfl)) (by decide) (by decide)) q32_a q32_c (g := (mkF m 291 #[.val (.int i0), .val (.int i1), .val (.int i2), .val (.int i3), .val (.int (3 : Int32)), .val (.int ps), .val (.int ch), .val (.ref b1), .val (.ref b2), .val (.ref b3), .val (.ref b4), .val (.ref b5), .val (.int (0 : Int32)), .unset, .unset] [(.ref b5)])) rfl (by rw [hml]; rfl) (Steps.refl _) (argsL := []) (rest := []) (lenOf pd__28_29I rfl) rfl (by show 2 * 0 + _ ≤ _; exact Nat.le_of_eq rfl) (hb hby at_291) (fun _ _ => ⟨rfl, rfl, (by decide : 6 + 0 ≤ _), (by decide : 25 + 0 ≤ _)⟩)
      dsimp only [Pt.U, Pt.locs, Pt.cells, Pt.slots] at X32_ l32_ y32_ z32_ st32_ hQ32_
      subst l32_ y32_ z32_
      obtain ⟨rfl, N32_q, e32_⟩ := hQ32_
      have N32_ := Fr.app N31_ N32_q
      refine Runs.tr st32_ ?_
      replace X32_ := wider X32_ (c' := 6) (s' := 25) (by decide) (by decide)
      show Runs p.tables e below _ (T32_.setTop (mkF m 294 #[.val (.int i0), .val (.int i1), .val (.int i2), .val (.int i3), .val (.int (3 : Int32)), .val (.int ps), .val (.int ch), .val (.ref b1), .val (.ref b2), .val (.ref b3), .val (.ref b4), .val (.ref b5), .val (.int (0 : Int32)), .unset, .unset] [(.int (6 : Int32))]))
      refine Runs.st (fun t' k' => XS.iconst X32_.here hx rfl (hb hby at_294) k') ?_
      refine Runs.st (fun t' k' => XS.icmpYes X32_.here hx rfl (pc0 := 295) (pc' := 357) rfl (hb hby at_295) rfl (feq (by decide)).2 (by decide) (by decide) k') ?_
      show Runs p.tables e below _ (T32_.setTop (mkF m 357 #[.val (.int i0), .val (.int i1), .val (.int i2), .val (.int i3), .val (.int (3 : Int32)), .val (.int ps), .val (.int ch), .val (.ref b1), .val (.ref b2), .val (.ref b3), .val (.ref b4), .val (.ref b5), .val (.int (0 : Int32)), .unset, .unset] []))
      refine Runs.st (fun t' k' => XS.iconst X32_.here hx rfl (hb hby at_357) k') ?_
      refine Runs.st (fun t' k' => XS.istore X32_.here hx rfl (hb hby at_358) rfl (l' := #[.val (.int i0), .val (.int i1), .val (.int i2), .val (.int i3), .val (.int (3 : Int32)), .val (.int ps), .val (.int ch), .val (.ref b1), .val (.ref b2), .val (.ref b3), .val (.ref b4), .val (.ref b5), .val (.int (0 : Int32)), .unset, .unset]) rfl k') ?_
      refine Runs.st (fun t' k' => XS.iload X32_.here hx rfl (hb hby at_360) rfl k') ?_
      refine Runs.st (fun t' k' => XS.ifYes X32_.here hx rfl (pc0 := 362) (pc' := 371) rfl (hb hby at_362) rfl ((if0 _ _).trans (teq rfl).1) (by decide) (by decide) k') ?_
      show Runs p.tables e below _ (T32_.setTop (mkF m 371 #[.val (.int i0), .val (.int i1), .val (.int i2), .val (.int i3), .val (.int (3 : Int32)), .val (.int ps), .val (.int ch), .val (.ref b1), .val (.ref b2), .val (.ref b3), .val (.ref b4), .val (.ref b5), .val (.int (0 : Int32)), .unset, .unset] []))
      obtain ⟨T33_, X33_, e33_, st33_⟩ := getS2 X32_ hx hZ hown (host := "") (Or.inl (hw _ (List.mem_of_getElem? (i := 86) rfl))) Via.refl e32_ (S1.ext old.2) (g := (mkF m 371 #[.val (.int i0), .val (.int i1), .val (.int i2), .val (.int i3), .val (.int (3 : Int32)), .val (.int ps), .val (.int ch), .val (.ref b1), .val (.ref b2), .val (.ref b3), .val (.ref b4), .val (.ref b5), .val (.int (0 : Int32)), .unset, .unset] [])) rfl (hb hby at_371)
      refine Runs.st (st33_) ?_
      show Runs p.tables e below _ (T33_.setTop (mkF m 374 #[.val (.int i0), .val (.int i1), .val (.int i2), .val (.int i3), .val (.int (3 : Int32)), .val (.int ps), .val (.int ch), .val (.ref b1), .val (.ref b2), .val (.ref b3), .val (.ref b4), .val (.ref b5), .val (.int (0 : Int32)), .unset, .unset] [(.ref om)]))
      refine Runs.st (fun t' k' => XS.astore X33_.here hx rfl (hb hby at_374) rfl rfl (l' := #[.val (.int i0), .val (.int i1), .val (.int i2), .val (.int i3), .val (.int (3 : Int32)), .val (.int ps), .val (.int ch), .val (.ref b1), .val (.ref b2), .val (.ref b3), .val (.ref b4), .val (.ref b5), .val (.int (0 : Int32)), .val (.ref om), .unset]) rfl k') ?_
      refine Runs.st (fun t' k' => XS.aload X33_.here hx rfl (hb hby at_376) rfl rfl k') ?_
      obtain ⟨_, _, ⟨T34_, L34_, k34_, n34_⟩, -, X34_, ⟨Lc34_, hQ34_, l34_, y34_, z34_⟩, st34_⟩ := Jvm.LawKit.callS X33_ hx (y := (⟨"com/example/standing_order/standingorder/api/InstanceForm", "ofEngine", "(Ljava/lang/String;)Lcom/example/standing_order/standingorder/api/InstanceForm;"⟩ : MethodName)) hown (mvT hZ (hw _ (List.mem_of_getElem? (i := 66) rfl))) (mvT hZ (hw _ (List.mem_of_getElem? (i := 67) rfl))) (mvT hZ (hw _ (List.mem_of_getElem? (i := 64) rfl))) (mvT hZ (hw _ (List.mem_of_getElem? (i := 68) rfl))) (by decide) (backOf (W := 0) (rmON l Z a0 hw [] b5 oe om s0 zc b6 v0 _ kv0 (6 : Int32) _ T31_.heap n0 sz (S0.ext old.2) (S1.ext old.2) (Fs0.ext old.2) (Ne.symm (old.ne Es0.lt g_b5)) (Sc.ext old.2) hzc E_b5 Fc_b5 Fv_b5 (Es0.ext old.2) (Fc0.ext old.2) (Fv0.ext old.2) V_b6 (V0.ext old.2) (by decide)) hZ (hw _ (List.mem_of_getElem? (i := 68) rfl)) (hw _ (List.mem_of_getElem? (i := 64) rfl)) (by decide) (by decide)) (g := (mkF m 378 #[.val (.int i0), .val (.int i1), .val (.int i2), .val (.int i3), .val (.int (3 : Int32)), .val (.int ps), .val (.int ch), .val (.ref b1), .val (.ref b2), .val (.ref b3), .val (.ref b4), .val (.ref b5), .val (.int (0 : Int32)), .val (.ref om), .unset] [(.ref b5)])) rfl (by rw [hml]; rfl) (argsL := [(.ref b5)]) (rest := []) (lenOf pd__28Ljava_2flang_2fString_3b_29Lcom_2fexample_2fstanding_order_2fstandingorder_2fapi_2fInstanceForm_3b rfl) rfl (by show 2 * 0 + _ ≤ _; exact Nat.le_of_eq rfl) (hb hby at_378) (fun _ _ => ⟨rfl, e33_, (by decide : 6 + 0 ≤ _), (by decide : 25 + 0 ≤ _)⟩)
      dsimp only [Pt.U, Pt.locs, Pt.cells, Pt.slots] at X34_ l34_ y34_ z34_ st34_ hQ34_
      subst l34_ y34_ z34_
      obtain ⟨rfl, N34_q, e34_⟩ := hQ34_
      have N34_ := Fr.app N32_ N34_q
      refine Runs.st (st34_) ?_
      replace X34_ := wider X34_ (c' := 6) (s' := 25) (by decide) (by decide)
      show Runs p.tables e below _ (T34_.setTop (mkF m 381 #[.val (.int i0), .val (.int i1), .val (.int i2), .val (.int i3), .val (.int (3 : Int32)), .val (.int ps), .val (.int ch), .val (.ref b1), .val (.ref b2), .val (.ref b3), .val (.ref b4), .val (.ref b5), .val (.int (0 : Int32)), .val (.ref om), .unset] [(.ref om)]))
      refine Runs.st (fun t' k' => XS.astore X34_.here hx rfl (hb hby at_381) rfl rfl (l' := #[.val (.int i0), .val (.int i1), .val (.int i2), .val (.int i3), .val (.int (3 : Int32)), .val (.int ps), .val (.int ch), .val (.ref b1), .val (.ref b2), .val (.ref b3), .val (.ref b4), .val (.ref b5), .val (.int (0 : Int32)), .val (.ref om), .val (.ref om)]) rfl k') ?_
      refine Runs.st (fun t' k' => XS.aload X34_.here hx rfl (hb hby at_383) rfl rfl k') ?_
      refine Runs.st (fun t' k' => XS.aload X34_.here hx rfl (hb hby at_385) rfl rfl k') ?_
      refine Runs.st (fun t' k' => Jvm.RoadKit.acmp (g := (mkF m 387 #[.val (.int i0), .val (.int i1), .val (.int i2), .val (.int i3), .val (.int (3 : Int32)), .val (.int ps), .val (.int ch), .val (.ref b1), .val (.ref b2), .val (.ref b3), .val (.ref b4), .val (.ref b5), .val (.int (0 : Int32)), .val (.ref om), .val (.ref om)] [(.ref om), (.ref om)])) X34_ hx rfl rfl rfl (pc0 := 387) (pc' := 390) (same := true) rfl (hb hby at_387) rfl (decide_eq_true rfl) (by decide) (by decide) k') ?_
      show Runs p.tables e below _ (T34_.setTop (mkF m 390 #[.val (.int i0), .val (.int i1), .val (.int i2), .val (.int i3), .val (.int (3 : Int32)), .val (.int ps), .val (.int ch), .val (.ref b1), .val (.ref b2), .val (.ref b3), .val (.ref b4), .val (.ref b5), .val (.int (0 : Int32)), .val (.ref om), .val (.ref om)] []))
      refine Runs.st (fun t' k' => XS.aload X34_.here hx rfl (hb hby at_390) rfl rfl k') ?_
      obtain ⟨cq35_, kq35_, q35_a, q35_b, q35_c⟩ := isOf hZ e34_ (E1.ext old.2)
      obtain ⟨_, _, ⟨T35_, L35_, k35_, n35_⟩, -, X35_, ⟨Lc35_, hQ35_, l35_, y35_, z35_⟩, st35_⟩ := X34_.virtualBack hx (y := (⟨"com/example/standing_order/standingorder/api/InstanceForm", "engine", "()Ljava/lang/String;"⟩ : MethodName)) (z := (⟨"com/example/standing_order/standingorder/api/InstanceForm", "engine", "()Ljava/lang/String;"⟩ : MethodName)) hown (mvT hZ (hw _ (List.mem_of_getElem? (i := 81) rfl))) (mvT hZ (hw _ (List.mem_of_getElem? (i := 82) rfl))) (notFace_of_selects (args := #[]) (mvT hZ (hw _ (List.mem_of_getElem? (i := 84) rfl)))) (mvT hZ (hw _ (List.mem_of_getElem? (i := 84) rfl))) (mvT hZ (hw _ (List.mem_of_getElem? (i := 83) rfl))) (by decide) (backOf (W := 0) (rmEng l Z a0 hw [] om s1 T31_.heap n0 sz (Fs1.ext old.2)) hZ (hw _ (List.mem_of_getElem? (i := 85) rfl)) (hw _ (List.mem_of_getElem? (i := 64) rfl)) (by decide) (by decide)) q35_a q35_c (g := (mkF m 392 #[.val (.int i0), .val (.int i1), .val (.int i2), .val (.int i3), .val (.int (3 : Int32)), .val (.int ps), .val (.int ch), .val (.ref b1), .val (.ref b2), .val (.ref b3), .val (.ref b4), .val (.ref b5), .val (.int (0 : Int32)), .val (.ref om), .val (.ref om)] [(.ref om)])) rfl (by rw [hml]; rfl) (Steps.refl _) (argsL := []) (rest := []) (lenOf pd__28_29Ljava_2flang_2fString_3b rfl) rfl (by show 2 * 0 + _ ≤ _; exact Nat.le_of_eq rfl) (hb hby at_392) (fun _ _ => ⟨rfl, e34_, (by decide : 6 + 0 ≤ _), (by decide : 25 + 0 ≤ _)⟩)
      dsimp only [Pt.U, Pt.locs, Pt.cells, Pt.slots] at X35_ l35_ y35_ z35_ st35_ hQ35_
      subst l35_ y35_ z35_
      obtain ⟨rfl, N35_q, e35_⟩ := hQ35_
      have N35_ := Fr.app N34_ N35_q
      refine Runs.tr st35_ ?_
      replace X35_ := wider X35_ (c' := 6) (s' := 25) (by decide) (by decide)
      show Runs p.tables e below _ (T35_.setTop (mkF m 395 #[.val (.int i0), .val (.int i1), .val (.int i2), .val (.int i3), .val (.int (3 : Int32)), .val (.int ps), .val (.int ch), .val (.ref b1), .val (.ref b2), .val (.ref b3), .val (.ref b4), .val (.ref b5), .val (.int (0 : Int32)), .val (.ref om), .val (.ref om)] [(.ref s1)]))
      obtain ⟨_, _, ⟨T36_, L36_, k36_, n36_⟩, -, X36_, ⟨Lc36_, hQ36_, l36_, y36_, z36_⟩, st36_⟩ := Jvm.LawKit.callS X35_ hx (y := (⟨"com/example/standing_order/standingorder/api/InstanceForm", "ofEngine", "(Ljava/lang/String;)Lcom/example/standing_order/standingorder/api/InstanceForm;"⟩ : MethodName)) hown (mvT hZ (hw _ (List.mem_of_getElem? (i := 66) rfl))) (mvT hZ (hw _ (List.mem_of_getElem? (i := 67) rfl))) (mvT hZ (hw _ (List.mem_of_getElem? (i := 64) rfl))) (mvT hZ (hw _ (List.mem_of_getElem? (i := 68) rfl))) (by decide) (backOf (W := 0) (rmON l Z a0 hw [] s1 oe om s0 zc v1 v0 kv1 kv0 (7 : Int32) _ T31_.heap n0 sz (S0.ext old.2) (S1.ext old.2) (Fs0.ext old.2) hs10 (Sc.ext old.2) hzc (Es1.ext old.2) (Fc1.ext old.2) (Fv1.ext old.2) (Es0.ext old.2) (Fc0.ext old.2) (Fv0.ext old.2) (V1.ext old.2) (V0.ext old.2) (by decide)) hZ (hw _ (List.mem_of_getElem? (i := 68) rfl)) (hw _ (List.mem_of_getElem? (i := 64) rfl)) (by decide) (by decide)) (g := (mkF m 395 #[.val (.int i0), .val (.int i1), .val (.int i2), .val (.int i3), .val (.int (3 : Int32)), .val (.int ps), .val (.int ch), .val (.ref b1), .val (.ref b2), .val (.ref b3), .val (.ref b4), .val (.ref b5), .val (.int (0 : Int32)), .val (.ref om), .val (.ref om)] [(.ref s1)])) rfl (by rw [hml]; rfl) (argsL := [(.ref s1)]) (rest := []) (lenOf pd__28Ljava_2flang_2fString_3b_29Lcom_2fexample_2fstanding_order_2fstandingorder_2fapi_2fInstanceForm_3b rfl) rfl (by show 2 * 0 + _ ≤ _; exact Nat.le_of_eq rfl) (hb hby at_395) (fun _ _ => ⟨rfl, e35_, (by decide : 6 + 0 ≤ _), (by decide : 25 + 0 ≤ _)⟩)
      dsimp only [Pt.U, Pt.locs, Pt.cells, Pt.slots] at X36_ l36_ y36_ z36_ st36_ hQ36_
      subst l36_ y36_ z36_
      obtain ⟨rfl, N36_q, e36_⟩ := hQ36_
      have N36_ := Fr.app N35_ N36_q
      refine Runs.st (st36_) ?_
      replace X36_ := wider X36_ (c' := 6) (s' := 25) (by decide) (by decide)
      show Runs p.tables e below _ (T36_.setTop (mkF m 398 #[.val (.int i0), .val (.int i1), .val (.int i2), .val (.int i3), .val (.int (3 : Int32)), .val (.int ps), .val (.int ch), .val (.ref b1), .val (.ref b2), .val (.ref b3), .val (.ref b4), .val (.ref b5), .val (.int (0 : Int32)), .val (.ref om), .val (.ref om)] [(.ref om)]))
      refine Runs.st (fun t' k' => XS.aload X36_.here hx rfl (hb hby at_398) rfl rfl k') ?_
      refine Runs.st (fun t' k' => Jvm.RoadKit.acmp (g := (mkF m 400 #[.val (.int i0), .val (.int i1), .val (.int i2), .val (.int i3), .val (.int (3 : Int32)), .val (.int ps), .val (.int ch), .val (.ref b1), .val (.ref b2), .val (.ref b3), .val (.ref b4), .val (.ref b5), .val (.int (0 : Int32)), .val (.ref om), .val (.ref om)] [(.ref om), (.ref om)])) X36_ hx rfl rfl rfl (pc0 := 400) (pc' := 403) (same := true) rfl (hb hby at_400) rfl (decide_eq_true rfl) (by decide) (by decide) k') ?_
      show Runs p.tables e below _ (T36_.setTop (mkF m 403 #[.val (.int i0), .val (.int i1), .val (.int i2), .val (.int i3), .val (.int (3 : Int32)), .val (.int ps), .val (.int ch), .val (.ref b1), .val (.ref b2), .val (.ref b3), .val (.ref b4), .val (.ref b5), .val (.int (0 : Int32)), .val (.ref om), .val (.ref om)] []))
      refine Runs.st (fun t' k' => XS.iconst X36_.here hx rfl (hb hby at_403) k') ?_
      refine Runs.st (fun t' k' => XS.goto X36_.here hx rfl (pc0 := 404) (pc' := 408) rfl (hb hby at_404) (by decide) (by decide) k') ?_
      refine Runs.retW (s := s) (vm₁ := s.vm) X36_ hS (by rw [e36_]; exact hk) hlk (v := (some (.int (1 : Int32)))) (fun h => by rw [hret] at h; cases h) (by decide) (by decide) ?_ (fun fs hr => retN X36_ hx (t := .boolean) hret (by simp) (hb hby at_408) hr)
      try rw [e36_]
      exact ⟨rfl, N36_⟩
    · skip
      show Runs p.tables e below _ (T19_.setTop (mkF m 207 #[.val (.int i0), .val (.int i1), .val (.int i2), .val (.int i3), .val (.int (3 : Int32)), .val (.int ps), .val (.int ch), .val (.ref b1), .val (.ref b2), .val (.ref b3), .val (.ref b4), .unset, .unset, .unset, .unset] [(.int (1 : Int32))]))
      refine Runs.st (fun t' k' => XS.istore X19_.here hx rfl (hb hby at_207) rfl (l' := #[.val (.int i0), .val (.int i1), .val (.int i2), .val (.int i3), .val (.int (3 : Int32)), .val (.int ps), .val (.int ch), .val (.ref b1), .val (.ref b2), .val (.ref b3), .val (.ref b4), .unset, .val (.int (1 : Int32)), .unset, .unset]) rfl k') ?_
      refine Runs.st (fun t' k' => XS.iload X19_.here hx rfl (hb hby at_209) rfl k') ?_
      refine Runs.st (fun t' k' => XS.ifYes X19_.here hx rfl (pc0 := 211) (pc' := 228) rfl (hb hby at_211) rfl ((if0 _ _).trans (feq (by decide)).2) (by decide) (by decide) k') ?_
      show Runs p.tables e below _ (T19_.setTop (mkF m 228 #[.val (.int i0), .val (.int i1), .val (.int i2), .val (.int i3), .val (.int (3 : Int32)), .val (.int ps), .val (.int ch), .val (.ref b1), .val (.ref b2), .val (.ref b3), .val (.ref b4), .unset, .val (.int (1 : Int32)), .unset, .unset] []))
      refine Runs.st (fun t' k' => XS.iload X19_.here hx rfl (hb hby at_228) rfl k') ?_
      refine Runs.st (fun t' k' => XS.iconst X19_.here hx rfl (hb hby at_230) k') ?_
      refine Runs.st (fun t' k' => XS.icmpNo X19_.here hx rfl (hb hby at_231) rfl (teq rfl).2 k') ?_
      show Runs p.tables e below _ (T19_.setTop (mkF m 234 #[.val (.int i0), .val (.int i1), .val (.int i2), .val (.int i3), .val (.int (3 : Int32)), .val (.int ps), .val (.int ch), .val (.ref b1), .val (.ref b2), .val (.ref b3), .val (.ref b4), .unset, .val (.int (1 : Int32)), .unset, .unset] []))
      obtain ⟨T37_, h37_, X37_, e37_, E37_, A37_, D37_, -, st37_⟩ := newO X19_ hx hZ hown (hw _ (List.mem_of_getElem? (i := 2) rfl)) (hw _ (List.mem_of_getElem? (i := 3) rfl)) (hw _ (List.mem_of_getElem? (i := 4) rfl)) e19_ (g := (mkF m 234 #[.val (.int i0), .val (.int i1), .val (.int i2), .val (.int i3), .val (.int (3 : Int32)), .val (.int ps), .val (.int ch), .val (.ref b1), .val (.ref b2), .val (.ref b3), .val (.ref b4), .unset, .val (.int (1 : Int32)), .unset, .unset] [])) rfl (hb hby at_234) (by decide) (by decide)
      refine Runs.st (st37_) ?_
      obtain ⟨b5, g37_⟩ : ∃ z, z = h19_.size := ⟨_, rfl⟩
      rw [← g37_] at A37_ D37_
      try rw [← g37_]
      have g_b5 : n0 ≤ b5 := Nat.le_trans sz (Nat.le_of_eq g37_.symm)
      have sz_b5 : h0.size ≤ b5 := Nat.le_trans K.1 (Nat.le_of_eq g37_.symm)
      have ne_b1_b5 : b1 ≠ b5 := Nat.ne_of_lt (Nat.lt_of_lt_of_le V_b1.lt (Nat.le_of_eq g37_.symm))
      have ne_b2_b5 : b2 ≠ b5 := Nat.ne_of_lt (Nat.lt_of_lt_of_le V_b2.lt (Nat.le_of_eq g37_.symm))
      have ne_b3_b5 : b3 ≠ b5 := Nat.ne_of_lt (Nat.lt_of_lt_of_le V_b3.lt (Nat.le_of_eq g37_.symm))
      have ne_b4_b5 : b4 ≠ b5 := Nat.ne_of_lt (Nat.lt_of_lt_of_le V_b4.lt (Nat.le_of_eq g37_.symm))
      replace old := old.ext E37_
      replace V_b1 := V_b1.ext E37_
      replace V_b2 := V_b2.ext E37_
      replace V_b3 := V_b3.ext E37_
      replace V_b4 := V_b4.ext E37_
      replace sz := Nat.le_trans sz E37_.1
      replace K := K.ext E37_
      replace hk := Nat.le_trans hk E37_.1
      have E_b5 := A37_
      have F_b5_coder : Fld Z h37_ b5 "java/lang/String" "coder" "B" (.int (0 : Int32)) := D37_ (Or.inr (hw _ (List.mem_of_getElem? (i := 28) rfl))) (ty := .byte) (by decide)
      have F_b5_value : Fld Z h37_ b5 "java/lang/String" "value" "[B" .null := D37_ (Or.inr (hw _ (List.mem_of_getElem? (i := 30) rfl))) (ty := (.array .byte)) (by decide)
      show Runs p.tables e below _ (T37_.setTop (mkF m 237 #[.val (.int i0), .val (.int i1), .val (.int i2), .val (.int i3), .val (.int (3 : Int32)), .val (.int ps), .val (.int ch), .val (.ref b1), .val (.ref b2), .val (.ref b3), .val (.ref b4), .unset, .val (.int (1 : Int32)), .unset, .unset] [(.ref b5)]))
      refine Runs.st (fun t' k' => XS.dup X37_.here hx rfl (hb hby at_237) rfl rfl k') ?_
      refine Runs.st (fun t' k' => XS.aload X37_.here hx rfl (hb hby at_238) rfl rfl k') ?_
      have kz38_ := K.1
      have gz38_ := sz
      have lt38__b1 := V_b1.lt
      have lt38__b2 := V_b2.lt
      have lt38__b3 := V_b3.lt
      have lt38__b4 := V_b4.lt
      have lt38__b5 := E_b5.lt
      obtain ⟨_, _, ⟨T38_, L38_, k38_, n38_⟩, -, X38_, ⟨Lc38_, hQ38_, l38_, y38_, z38_⟩, st38_⟩ := X37_.specialBack hx (y := (⟨"java/lang/String", "<init>", "([C)V"⟩ : MethodName)) rfl hown (mvT hZ (hw _ (List.mem_of_getElem? (i := 5) rfl))) (mvT hZ (hw _ (List.mem_of_getElem? (i := 6) rfl))) (mvT hZ (hw _ (List.mem_of_getElem? (i := 7) rfl))) (by decide) (backOf (W := 1) (rmIC4 l Z a0 hw [] b5 b3 (nar .char (82 : Int32)) (nar .char (101 : Int32)) (nar .char (100 : Int32)) (nar .char (105 : Int32)) _ zc h37_ n0 sz E_b5 F_b5_value F_b5_coder g_b5 V_b3 (Sc.ext old.2) hzc (by decide) (by decide) (by decide) (by decide)) hZ (hw _ (List.mem_of_getElem? (i := 7) rfl)) (hw _ (List.mem_of_getElem? (i := 4) rfl)) (by decide) (by decide)) (g := (mkF m 240 #[.val (.int i0), .val (.int i1), .val (.int i2), .val (.int i3), .val (.int (3 : Int32)), .val (.int ps), .val (.int ch), .val (.ref b1), .val (.ref b2), .val (.ref b3), .val (.ref b4), .unset, .val (.int (1 : Int32)), .unset, .unset] [(.ref b3), (.ref b5), (.ref b5)])) rfl (by rw [hml]; rfl) (Steps.refl _) (a := b5) (argsL := [(.ref b3)]) (rest := [(.ref b5)]) (lenOf pd__28_5bC_29V rfl) rfl (by show 2 * 0 + _ ≤ _; exact Nat.le_of_eq rfl) (hb hby at_240) (fun _ _ => ⟨rfl, e37_, (by decide : 5 + 1 ≤ _), (by decide : 19 + 4 ≤ _)⟩)
      dsimp only [Pt.U, Pt.locs, Pt.cells, Pt.slots] at X38_ l38_ y38_ z38_ st38_ hQ38_
      subst l38_ y38_ z38_
      obtain ⟨rfl, N38_q, K38_, E_b5, Fc_b5, b6, kb6, szb, Fv_b5, V_b6⟩ := hQ38_
      have N38_ := Fr.app N18_ N38_q
      refine Runs.tr st38_ ?_
      replace X38_ := wider X38_ (c' := 6) (s' := 23) (by decide) (by decide)
      replace old := old.keep K38_ (allS g_b5 all0)
      replace V_b1 := V_b1.keep K38_ (ninS ne_b1_b5 nin0)
      replace V_b2 := V_b2.keep K38_ (ninS ne_b2_b5 nin0)
      replace V_b3 := V_b3.keep K38_ (ninS ne_b3_b5 nin0)
      replace V_b4 := V_b4.keep K38_ (ninS ne_b4_b5 nin0)
      replace sz := Nat.le_trans sz K38_.1
      replace hk := Nat.le_trans hk K38_.1
      replace K := K.trans K38_ (allS (Or.inr sz_b5) all0)
      have sz_b6 : h0.size ≤ b6 := Nat.le_trans kz38_ szb
      have g_b6 : n0 ≤ b6 := Nat.le_trans gz38_ szb
      have ne_b1_b6 : b1 ≠ b6 := Nat.ne_of_lt (Nat.lt_of_lt_of_le lt38__b1 szb)
      have ne_b2_b6 : b2 ≠ b6 := Nat.ne_of_lt (Nat.lt_of_lt_of_le lt38__b2 szb)
      have ne_b3_b6 : b3 ≠ b6 := Nat.ne_of_lt (Nat.lt_of_lt_of_le lt38__b3 szb)
      have ne_b4_b6 : b4 ≠ b6 := Nat.ne_of_lt (Nat.lt_of_lt_of_le lt38__b4 szb)
      have ne_b5_b6 : b5 ≠ b6 := Nat.ne_of_lt (Nat.lt_of_lt_of_le lt38__b5 szb)
      show Runs p.tables e below _ (T38_.setTop (mkF m 243 #[.val (.int i0), .val (.int i1), .val (.int i2), .val (.int i3), .val (.int (3 : Int32)), .val (.int ps), .val (.int ch), .val (.ref b1), .val (.ref b2), .val (.ref b3), .val (.ref b4), .unset, .val (.int (1 : Int32)), .unset, .unset] [(.ref b5)]))
      refine Runs.st (fun t' k' => XS.astore X38_.here hx rfl (hb hby at_243) rfl rfl (l' := #[.val (.int i0), .val (.int i1), .val (.int i2), .val (.int i3), .val (.int (3 : Int32)), .val (.int ps), .val (.int ch), .val (.ref b1), .val (.ref b2), .val (.ref b3), .val (.ref b4), .val (.ref b5), .val (.int (1 : Int32)), .unset, .unset]) rfl k') ?_
      refine Runs.st (fun t' k' => XS.goto X38_.here hx rfl (pc0 := 245) (pc' := 275) rfl (hb hby at_245) (by decide) (by decide) k') ?_
      refine Runs.st (fun t' k' => XS.goto X38_.here hx rfl (pc0 := 275) (pc' := 289) rfl (hb hby at_275) (by decide) (by decide) k') ?_
      refine Runs.st (fun t' k' => XS.aload X38_.here hx rfl (hb hby at_289) rfl rfl k') ?_
      obtain ⟨cq39_, kq39_, q39_a, q39_b, q39_c⟩ := isOf hZ rfl E_b5
      obtain ⟨_, _, ⟨T39_, L39_, k39_, n39_⟩, -, X39_, ⟨Lc39_, hQ39_, l39_, y39_, z39_⟩, st39_⟩ := X38_.virtualBack hx (y := (⟨"java/lang/String", "length", "()I"⟩ : MethodName)) (z := (⟨"java/lang/String", "length", "()I"⟩ : MethodName)) hown (mvT hZ (hw _ (List.mem_of_getElem? (i := 31) rfl))) (mvT hZ (hw _ (List.mem_of_getElem? (i := 32) rfl))) (notFace_of_selects (args := #[]) (mvT hZ (hw _ (List.mem_of_getElem? (i := 34) rfl)))) (mvT hZ (hw _ (List.mem_of_getElem? (i := 34) rfl))) (mvT hZ (hw _ (List.mem_of_getElem? (i := 33) rfl))) (by decide) (backOf (W := 0) (rmLen l Z a0 hw [] b5 zc b6 (4 : Int32) _ _ (4 : Int32) T38_.heap n0 sz E_b5 (Sc.ext old.2) hzc Fc_b5 Fv_b5 V_b6 (by decide)) hZ (hw _ (List.mem_of_getElem? (i := 35) rfl)) (hw _ (List.mem_of_getElem? (i := 4) rfl)) (by decide) (by decide)) q39_a q39_c (g := (mkF m 291 #[.val (.int i0), .val (.int i1), .val (.int i2), .val (.int i3), .val (.int (3 : Int32)), .val (.int ps), .val (.int ch), .val (.ref b1), .val (.ref b2), .val (.ref b3), .val (.ref b4), .val (.ref b5), .val (.int (1 : Int32)), .unset, .unset] [(.ref b5)])) rfl (by rw [hml]; rfl) (Steps.refl _) (argsL := []) (rest := []) (lenOf pd__28_29I rfl) rfl (by show 2 * 0 + _ ≤ _; exact Nat.le_of_eq rfl) (hb hby at_291) (fun _ _ => ⟨rfl, rfl, (by decide : 6 + 0 ≤ _), (by decide : 23 + 0 ≤ _)⟩)
      dsimp only [Pt.U, Pt.locs, Pt.cells, Pt.slots] at X39_ l39_ y39_ z39_ st39_ hQ39_
      subst l39_ y39_ z39_
      obtain ⟨rfl, N39_q, e39_⟩ := hQ39_
      have N39_ := Fr.app N38_ N39_q
      refine Runs.tr st39_ ?_
      replace X39_ := wider X39_ (c' := 6) (s' := 23) (by decide) (by decide)
      show Runs p.tables e below _ (T39_.setTop (mkF m 294 #[.val (.int i0), .val (.int i1), .val (.int i2), .val (.int i3), .val (.int (3 : Int32)), .val (.int ps), .val (.int ch), .val (.ref b1), .val (.ref b2), .val (.ref b3), .val (.ref b4), .val (.ref b5), .val (.int (1 : Int32)), .unset, .unset] [(.int (4 : Int32))]))
      refine Runs.st (fun t' k' => XS.iconst X39_.here hx rfl (hb hby at_294) k') ?_
      refine Runs.st (fun t' k' => XS.icmpYes X39_.here hx rfl (pc0 := 295) (pc' := 357) rfl (hb hby at_295) rfl (feq (by decide)).2 (by decide) (by decide) k') ?_
      show Runs p.tables e below _ (T39_.setTop (mkF m 357 #[.val (.int i0), .val (.int i1), .val (.int i2), .val (.int i3), .val (.int (3 : Int32)), .val (.int ps), .val (.int ch), .val (.ref b1), .val (.ref b2), .val (.ref b3), .val (.ref b4), .val (.ref b5), .val (.int (1 : Int32)), .unset, .unset] []))
      refine Runs.st (fun t' k' => XS.iconst X39_.here hx rfl (hb hby at_357) k') ?_
      refine Runs.st (fun t' k' => XS.istore X39_.here hx rfl (hb hby at_358) rfl (l' := #[.val (.int i0), .val (.int i1), .val (.int i2), .val (.int i3), .val (.int (3 : Int32)), .val (.int ps), .val (.int ch), .val (.ref b1), .val (.ref b2), .val (.ref b3), .val (.ref b4), .val (.ref b5), .val (.int (0 : Int32)), .unset, .unset]) rfl k') ?_
      refine Runs.st (fun t' k' => XS.iload X39_.here hx rfl (hb hby at_360) rfl k') ?_
      refine Runs.st (fun t' k' => XS.ifYes X39_.here hx rfl (pc0 := 362) (pc' := 371) rfl (hb hby at_362) rfl ((if0 _ _).trans (teq rfl).1) (by decide) (by decide) k') ?_
      show Runs p.tables e below _ (T39_.setTop (mkF m 371 #[.val (.int i0), .val (.int i1), .val (.int i2), .val (.int i3), .val (.int (3 : Int32)), .val (.int ps), .val (.int ch), .val (.ref b1), .val (.ref b2), .val (.ref b3), .val (.ref b4), .val (.ref b5), .val (.int (0 : Int32)), .unset, .unset] []))
      obtain ⟨T40_, X40_, e40_, st40_⟩ := getS2 X39_ hx hZ hown (host := "") (Or.inl (hw _ (List.mem_of_getElem? (i := 86) rfl))) Via.refl e39_ (S1.ext old.2) (g := (mkF m 371 #[.val (.int i0), .val (.int i1), .val (.int i2), .val (.int i3), .val (.int (3 : Int32)), .val (.int ps), .val (.int ch), .val (.ref b1), .val (.ref b2), .val (.ref b3), .val (.ref b4), .val (.ref b5), .val (.int (0 : Int32)), .unset, .unset] [])) rfl (hb hby at_371)
      refine Runs.st (st40_) ?_
      show Runs p.tables e below _ (T40_.setTop (mkF m 374 #[.val (.int i0), .val (.int i1), .val (.int i2), .val (.int i3), .val (.int (3 : Int32)), .val (.int ps), .val (.int ch), .val (.ref b1), .val (.ref b2), .val (.ref b3), .val (.ref b4), .val (.ref b5), .val (.int (0 : Int32)), .unset, .unset] [(.ref om)]))
      refine Runs.st (fun t' k' => XS.astore X40_.here hx rfl (hb hby at_374) rfl rfl (l' := #[.val (.int i0), .val (.int i1), .val (.int i2), .val (.int i3), .val (.int (3 : Int32)), .val (.int ps), .val (.int ch), .val (.ref b1), .val (.ref b2), .val (.ref b3), .val (.ref b4), .val (.ref b5), .val (.int (0 : Int32)), .val (.ref om), .unset]) rfl k') ?_
      refine Runs.st (fun t' k' => XS.aload X40_.here hx rfl (hb hby at_376) rfl rfl k') ?_
      obtain ⟨_, _, ⟨T41_, L41_, k41_, n41_⟩, -, X41_, ⟨Lc41_, hQ41_, l41_, y41_, z41_⟩, st41_⟩ := Jvm.LawKit.callS X40_ hx (y := (⟨"com/example/standing_order/standingorder/api/InstanceForm", "ofEngine", "(Ljava/lang/String;)Lcom/example/standing_order/standingorder/api/InstanceForm;"⟩ : MethodName)) hown (mvT hZ (hw _ (List.mem_of_getElem? (i := 66) rfl))) (mvT hZ (hw _ (List.mem_of_getElem? (i := 67) rfl))) (mvT hZ (hw _ (List.mem_of_getElem? (i := 64) rfl))) (mvT hZ (hw _ (List.mem_of_getElem? (i := 68) rfl))) (by decide) (backOf (W := 0) (rmON l Z a0 hw [] b5 oe om s0 zc b6 v0 _ kv0 (4 : Int32) _ T38_.heap n0 sz (S0.ext old.2) (S1.ext old.2) (Fs0.ext old.2) (Ne.symm (old.ne Es0.lt g_b5)) (Sc.ext old.2) hzc E_b5 Fc_b5 Fv_b5 (Es0.ext old.2) (Fc0.ext old.2) (Fv0.ext old.2) V_b6 (V0.ext old.2) (by decide)) hZ (hw _ (List.mem_of_getElem? (i := 68) rfl)) (hw _ (List.mem_of_getElem? (i := 64) rfl)) (by decide) (by decide)) (g := (mkF m 378 #[.val (.int i0), .val (.int i1), .val (.int i2), .val (.int i3), .val (.int (3 : Int32)), .val (.int ps), .val (.int ch), .val (.ref b1), .val (.ref b2), .val (.ref b3), .val (.ref b4), .val (.ref b5), .val (.int (0 : Int32)), .val (.ref om), .unset] [(.ref b5)])) rfl (by rw [hml]; rfl) (argsL := [(.ref b5)]) (rest := []) (lenOf pd__28Ljava_2flang_2fString_3b_29Lcom_2fexample_2fstanding_order_2fstandingorder_2fapi_2fInstanceForm_3b rfl) rfl (by show 2 * 0 + _ ≤ _; exact Nat.le_of_eq rfl) (hb hby at_378) (fun _ _ => ⟨rfl, e40_, (by decide : 6 + 0 ≤ _), (by decide : 23 + 0 ≤ _)⟩)
      dsimp only [Pt.U, Pt.locs, Pt.cells, Pt.slots] at X41_ l41_ y41_ z41_ st41_ hQ41_
      subst l41_ y41_ z41_
      obtain ⟨rfl, N41_q, e41_⟩ := hQ41_
      have N41_ := Fr.app N39_ N41_q
      refine Runs.st (st41_) ?_
      replace X41_ := wider X41_ (c' := 6) (s' := 23) (by decide) (by decide)
      show Runs p.tables e below _ (T41_.setTop (mkF m 381 #[.val (.int i0), .val (.int i1), .val (.int i2), .val (.int i3), .val (.int (3 : Int32)), .val (.int ps), .val (.int ch), .val (.ref b1), .val (.ref b2), .val (.ref b3), .val (.ref b4), .val (.ref b5), .val (.int (0 : Int32)), .val (.ref om), .unset] [(.ref om)]))
      refine Runs.st (fun t' k' => XS.astore X41_.here hx rfl (hb hby at_381) rfl rfl (l' := #[.val (.int i0), .val (.int i1), .val (.int i2), .val (.int i3), .val (.int (3 : Int32)), .val (.int ps), .val (.int ch), .val (.ref b1), .val (.ref b2), .val (.ref b3), .val (.ref b4), .val (.ref b5), .val (.int (0 : Int32)), .val (.ref om), .val (.ref om)]) rfl k') ?_
      refine Runs.st (fun t' k' => XS.aload X41_.here hx rfl (hb hby at_383) rfl rfl k') ?_
      refine Runs.st (fun t' k' => XS.aload X41_.here hx rfl (hb hby at_385) rfl rfl k') ?_
      refine Runs.st (fun t' k' => Jvm.RoadKit.acmp (g := (mkF m 387 #[.val (.int i0), .val (.int i1), .val (.int i2), .val (.int i3), .val (.int (3 : Int32)), .val (.int ps), .val (.int ch), .val (.ref b1), .val (.ref b2), .val (.ref b3), .val (.ref b4), .val (.ref b5), .val (.int (0 : Int32)), .val (.ref om), .val (.ref om)] [(.ref om), (.ref om)])) X41_ hx rfl rfl rfl (pc0 := 387) (pc' := 390) (same := true) rfl (hb hby at_387) rfl (decide_eq_true rfl) (by decide) (by decide) k') ?_
      show Runs p.tables e below _ (T41_.setTop (mkF m 390 #[.val (.int i0), .val (.int i1), .val (.int i2), .val (.int i3), .val (.int (3 : Int32)), .val (.int ps), .val (.int ch), .val (.ref b1), .val (.ref b2), .val (.ref b3), .val (.ref b4), .val (.ref b5), .val (.int (0 : Int32)), .val (.ref om), .val (.ref om)] []))
      refine Runs.st (fun t' k' => XS.aload X41_.here hx rfl (hb hby at_390) rfl rfl k') ?_
      obtain ⟨cq42_, kq42_, q42_a, q42_b, q42_c⟩ := isOf hZ e41_ (E1.ext old.2)
      obtain ⟨_, _, ⟨T42_, L42_, k42_, n42_⟩, -, X42_, ⟨Lc42_, hQ42_, l42_, y42_, z42_⟩, st42_⟩ := X41_.virtualBack hx (y := (⟨"com/example/standing_order/standingorder/api/InstanceForm", "engine", "()Ljava/lang/String;"⟩ : MethodName)) (z := (⟨"com/example/standing_order/standingorder/api/InstanceForm", "engine", "()Ljava/lang/String;"⟩ : MethodName)) hown (mvT hZ (hw _ (List.mem_of_getElem? (i := 81) rfl))) (mvT hZ (hw _ (List.mem_of_getElem? (i := 82) rfl))) (notFace_of_selects (args := #[]) (mvT hZ (hw _ (List.mem_of_getElem? (i := 84) rfl)))) (mvT hZ (hw _ (List.mem_of_getElem? (i := 84) rfl))) (mvT hZ (hw _ (List.mem_of_getElem? (i := 83) rfl))) (by decide) (backOf (W := 0) (rmEng l Z a0 hw [] om s1 T38_.heap n0 sz (Fs1.ext old.2)) hZ (hw _ (List.mem_of_getElem? (i := 85) rfl)) (hw _ (List.mem_of_getElem? (i := 64) rfl)) (by decide) (by decide)) q42_a q42_c (g := (mkF m 392 #[.val (.int i0), .val (.int i1), .val (.int i2), .val (.int i3), .val (.int (3 : Int32)), .val (.int ps), .val (.int ch), .val (.ref b1), .val (.ref b2), .val (.ref b3), .val (.ref b4), .val (.ref b5), .val (.int (0 : Int32)), .val (.ref om), .val (.ref om)] [(.ref om)])) rfl (by rw [hml]; rfl) (Steps.refl _) (argsL := []) (rest := []) (lenOf pd__28_29Ljava_2flang_2fString_3b rfl) rfl (by show 2 * 0 + _ ≤ _; exact Nat.le_of_eq rfl) (hb hby at_392) (fun _ _ => ⟨rfl, e41_, (by decide : 6 + 0 ≤ _), (by decide : 23 + 0 ≤ _)⟩)
      dsimp only [Pt.U, Pt.locs, Pt.cells, Pt.slots] at X42_ l42_ y42_ z42_ st42_ hQ42_
      subst l42_ y42_ z42_
      obtain ⟨rfl, N42_q, e42_⟩ := hQ42_
      have N42_ := Fr.app N41_ N42_q
      refine Runs.tr st42_ ?_
      replace X42_ := wider X42_ (c' := 6) (s' := 23) (by decide) (by decide)
      show Runs p.tables e below _ (T42_.setTop (mkF m 395 #[.val (.int i0), .val (.int i1), .val (.int i2), .val (.int i3), .val (.int (3 : Int32)), .val (.int ps), .val (.int ch), .val (.ref b1), .val (.ref b2), .val (.ref b3), .val (.ref b4), .val (.ref b5), .val (.int (0 : Int32)), .val (.ref om), .val (.ref om)] [(.ref s1)]))
      obtain ⟨_, _, ⟨T43_, L43_, k43_, n43_⟩, -, X43_, ⟨Lc43_, hQ43_, l43_, y43_, z43_⟩, st43_⟩ := Jvm.LawKit.callS X42_ hx (y := (⟨"com/example/standing_order/standingorder/api/InstanceForm", "ofEngine", "(Ljava/lang/String;)Lcom/example/standing_order/standingorder/api/InstanceForm;"⟩ : MethodName)) hown (mvT hZ (hw _ (List.mem_of_getElem? (i := 66) rfl))) (mvT hZ (hw _ (List.mem_of_getElem? (i := 67) rfl))) (mvT hZ (hw _ (List.mem_of_getElem? (i := 64) rfl))) (mvT hZ (hw _ (List.mem_of_getElem? (i := 68) rfl))) (by decide) (backOf (W := 0) (rmON l Z a0 hw [] s1 oe om s0 zc v1 v0 kv1 kv0 (7 : Int32) _ T38_.heap n0 sz (S0.ext old.2) (S1.ext old.2) (Fs0.ext old.2) hs10 (Sc.ext old.2) hzc (Es1.ext old.2) (Fc1.ext old.2) (Fv1.ext old.2) (Es0.ext old.2) (Fc0.ext old.2) (Fv0.ext old.2) (V1.ext old.2) (V0.ext old.2) (by decide)) hZ (hw _ (List.mem_of_getElem? (i := 68) rfl)) (hw _ (List.mem_of_getElem? (i := 64) rfl)) (by decide) (by decide)) (g := (mkF m 395 #[.val (.int i0), .val (.int i1), .val (.int i2), .val (.int i3), .val (.int (3 : Int32)), .val (.int ps), .val (.int ch), .val (.ref b1), .val (.ref b2), .val (.ref b3), .val (.ref b4), .val (.ref b5), .val (.int (0 : Int32)), .val (.ref om), .val (.ref om)] [(.ref s1)])) rfl (by rw [hml]; rfl) (argsL := [(.ref s1)]) (rest := []) (lenOf pd__28Ljava_2flang_2fString_3b_29Lcom_2fexample_2fstanding_order_2fstandingorder_2fapi_2fInstanceForm_3b rfl) rfl (by show 2 * 0 + _ ≤ _; exact Nat.le_of_eq rfl) (hb hby at_395) (fun _ _ => ⟨rfl, e42_, (by decide : 6 + 0 ≤ _), (by decide : 23 + 0 ≤ _)⟩)
      dsimp only [Pt.U, Pt.locs, Pt.cells, Pt.slots] at X43_ l43_ y43_ z43_ st43_ hQ43_
      subst l43_ y43_ z43_
      obtain ⟨rfl, N43_q, e43_⟩ := hQ43_
      have N43_ := Fr.app N42_ N43_q
      refine Runs.st (st43_) ?_
      replace X43_ := wider X43_ (c' := 6) (s' := 23) (by decide) (by decide)
      show Runs p.tables e below _ (T43_.setTop (mkF m 398 #[.val (.int i0), .val (.int i1), .val (.int i2), .val (.int i3), .val (.int (3 : Int32)), .val (.int ps), .val (.int ch), .val (.ref b1), .val (.ref b2), .val (.ref b3), .val (.ref b4), .val (.ref b5), .val (.int (0 : Int32)), .val (.ref om), .val (.ref om)] [(.ref om)]))
      refine Runs.st (fun t' k' => XS.aload X43_.here hx rfl (hb hby at_398) rfl rfl k') ?_
      refine Runs.st (fun t' k' => Jvm.RoadKit.acmp (g := (mkF m 400 #[.val (.int i0), .val (.int i1), .val (.int i2), .val (.int i3), .val (.int (3 : Int32)), .val (.int ps), .val (.int ch), .val (.ref b1), .val (.ref b2), .val (.ref b3), .val (.ref b4), .val (.ref b5), .val (.int (0 : Int32)), .val (.ref om), .val (.ref om)] [(.ref om), (.ref om)])) X43_ hx rfl rfl rfl (pc0 := 400) (pc' := 403) (same := true) rfl (hb hby at_400) rfl (decide_eq_true rfl) (by decide) (by decide) k') ?_
      show Runs p.tables e below _ (T43_.setTop (mkF m 403 #[.val (.int i0), .val (.int i1), .val (.int i2), .val (.int i3), .val (.int (3 : Int32)), .val (.int ps), .val (.int ch), .val (.ref b1), .val (.ref b2), .val (.ref b3), .val (.ref b4), .val (.ref b5), .val (.int (0 : Int32)), .val (.ref om), .val (.ref om)] []))
      refine Runs.st (fun t' k' => XS.iconst X43_.here hx rfl (hb hby at_403) k') ?_
      refine Runs.st (fun t' k' => XS.goto X43_.here hx rfl (pc0 := 404) (pc' := 408) rfl (hb hby at_404) (by decide) (by decide) k') ?_
      refine Runs.retW (s := s) (vm₁ := s.vm) X43_ hS (by rw [e43_]; exact hk) hlk (v := (some (.int (1 : Int32)))) (fun h => by rw [hret] at h; cases h) (by decide) (by decide) ?_ (fun fs hr => retN X43_ hx (t := .boolean) hret (by simp) (hb hby at_408) hr)
      try rw [e43_]
      exact ⟨rfl, N43_⟩
    · skip
      show Runs p.tables e below _ (T19_.setTop (mkF m 207 #[.val (.int i0), .val (.int i1), .val (.int i2), .val (.int i3), .val (.int (3 : Int32)), .val (.int ps), .val (.int ch), .val (.ref b1), .val (.ref b2), .val (.ref b3), .val (.ref b4), .unset, .unset, .unset, .unset] [(.int (2 : Int32))]))
      refine Runs.st (fun t' k' => XS.istore X19_.here hx rfl (hb hby at_207) rfl (l' := #[.val (.int i0), .val (.int i1), .val (.int i2), .val (.int i3), .val (.int (3 : Int32)), .val (.int ps), .val (.int ch), .val (.ref b1), .val (.ref b2), .val (.ref b3), .val (.ref b4), .unset, .val (.int (2 : Int32)), .unset, .unset]) rfl k') ?_
      refine Runs.st (fun t' k' => XS.iload X19_.here hx rfl (hb hby at_209) rfl k') ?_
      refine Runs.st (fun t' k' => XS.ifYes X19_.here hx rfl (pc0 := 211) (pc' := 228) rfl (hb hby at_211) rfl ((if0 _ _).trans (feq (by decide)).2) (by decide) (by decide) k') ?_
      show Runs p.tables e below _ (T19_.setTop (mkF m 228 #[.val (.int i0), .val (.int i1), .val (.int i2), .val (.int i3), .val (.int (3 : Int32)), .val (.int ps), .val (.int ch), .val (.ref b1), .val (.ref b2), .val (.ref b3), .val (.ref b4), .unset, .val (.int (2 : Int32)), .unset, .unset] []))
      refine Runs.st (fun t' k' => XS.iload X19_.here hx rfl (hb hby at_228) rfl k') ?_
      refine Runs.st (fun t' k' => XS.iconst X19_.here hx rfl (hb hby at_230) k') ?_
      refine Runs.st (fun t' k' => XS.icmpYes X19_.here hx rfl (pc0 := 231) (pc' := 248) rfl (hb hby at_231) rfl (feq (by decide)).2 (by decide) (by decide) k') ?_
      show Runs p.tables e below _ (T19_.setTop (mkF m 248 #[.val (.int i0), .val (.int i1), .val (.int i2), .val (.int i3), .val (.int (3 : Int32)), .val (.int ps), .val (.int ch), .val (.ref b1), .val (.ref b2), .val (.ref b3), .val (.ref b4), .unset, .val (.int (2 : Int32)), .unset, .unset] []))
      refine Runs.st (fun t' k' => XS.iload X19_.here hx rfl (hb hby at_248) rfl k') ?_
      refine Runs.st (fun t' k' => XS.iconst X19_.here hx rfl (hb hby at_250) k') ?_
      refine Runs.st (fun t' k' => XS.icmpNo X19_.here hx rfl (hb hby at_251) rfl (teq rfl).2 k') ?_
      show Runs p.tables e below _ (T19_.setTop (mkF m 254 #[.val (.int i0), .val (.int i1), .val (.int i2), .val (.int i3), .val (.int (3 : Int32)), .val (.int ps), .val (.int ch), .val (.ref b1), .val (.ref b2), .val (.ref b3), .val (.ref b4), .unset, .val (.int (2 : Int32)), .unset, .unset] []))
      refine Runs.st (fun t' k' => XS.iload X19_.here hx rfl (hb hby at_254) rfl k') ?_
      have kz44_ := K.1
      have gz44_ := sz
      have lt44__b1 := V_b1.lt
      have lt44__b2 := V_b2.lt
      have lt44__b3 := V_b3.lt
      have lt44__b4 := V_b4.lt
      obtain ⟨_, _, ⟨T44_, L44_, k44_, n44_⟩, -, X44_, ⟨Lc44_, hQ44_, l44_, y44_, z44_⟩, st44_⟩ := Jvm.LawKit.callS X19_ hx (y := (⟨"java/lang/String", "valueOf", "(C)Ljava/lang/String;"⟩ : MethodName)) hown (mvT hZ (hw _ (List.mem_of_getElem? (i := 89) rfl))) (mvT hZ (hw _ (List.mem_of_getElem? (i := 90) rfl))) (mvT hZ (hw _ (List.mem_of_getElem? (i := 4) rfl))) (mvT hZ (hw _ (List.mem_of_getElem? (i := 91) rfl))) (by decide) (backOf (W := 0) (rmVO l Z a0 hw [] ch zc h19_ n0 sz (Sc.ext old.2) hzc (own_u _ rch)) hZ (hw _ (List.mem_of_getElem? (i := 91) rfl)) (hw _ (List.mem_of_getElem? (i := 4) rfl)) (by decide) (by decide)) (g := (mkF m 256 #[.val (.int i0), .val (.int i1), .val (.int i2), .val (.int i3), .val (.int (3 : Int32)), .val (.int ps), .val (.int ch), .val (.ref b1), .val (.ref b2), .val (.ref b3), .val (.ref b4), .unset, .val (.int (2 : Int32)), .unset, .unset] [(.int ch)])) rfl (by rw [hml]; rfl) (argsL := [(.int ch)]) (rest := []) (lenOf pd__28C_29Ljava_2flang_2fString_3b rfl) rfl (by show 2 * 0 + _ ≤ _; exact Nat.le_of_eq rfl) (hb hby at_256) (fun _ _ => ⟨rfl, e19_, (by decide : 4 + 2 ≤ _), (by decide : 15 + 5 ≤ _)⟩)
      dsimp only [Pt.U, Pt.locs, Pt.cells, Pt.slots] at X44_ l44_ y44_ z44_ st44_ hQ44_
      subst l44_ y44_ z44_
      obtain ⟨b5, b6, kb6, rfl, N44_q, K44_, szb5, szb6, ne56, E_b5, Fc_b5, Fv_b5, V_b6⟩ := hQ44_
      have N44_ := Fr.app N18_ N44_q
      refine Runs.st (st44_) ?_
      replace X44_ := wider X44_ (c' := 6) (s' := 20) (by decide) (by decide)
      replace old := old.keep K44_ all0
      replace V_b1 := V_b1.keep K44_ nin0
      replace V_b2 := V_b2.keep K44_ nin0
      replace V_b3 := V_b3.keep K44_ nin0
      replace V_b4 := V_b4.keep K44_ nin0
      replace sz := Nat.le_trans sz K44_.1
      replace hk := Nat.le_trans hk K44_.1
      replace K := K.trans K44_ all0
      have sz_b5 : h0.size ≤ b5 := Nat.le_trans kz44_ szb5
      have g_b5 : n0 ≤ b5 := Nat.le_trans gz44_ szb5
      have ne_b1_b5 : b1 ≠ b5 := Nat.ne_of_lt (Nat.lt_of_lt_of_le lt44__b1 szb5)
      have ne_b2_b5 : b2 ≠ b5 := Nat.ne_of_lt (Nat.lt_of_lt_of_le lt44__b2 szb5)
      have ne_b3_b5 : b3 ≠ b5 := Nat.ne_of_lt (Nat.lt_of_lt_of_le lt44__b3 szb5)
      have ne_b4_b5 : b4 ≠ b5 := Nat.ne_of_lt (Nat.lt_of_lt_of_le lt44__b4 szb5)
      have sz_b6 : h0.size ≤ b6 := Nat.le_trans kz44_ szb6
      have g_b6 : n0 ≤ b6 := Nat.le_trans gz44_ szb6
      have ne_b1_b6 : b1 ≠ b6 := Nat.ne_of_lt (Nat.lt_of_lt_of_le lt44__b1 szb6)
      have ne_b2_b6 : b2 ≠ b6 := Nat.ne_of_lt (Nat.lt_of_lt_of_le lt44__b2 szb6)
      have ne_b3_b6 : b3 ≠ b6 := Nat.ne_of_lt (Nat.lt_of_lt_of_le lt44__b3 szb6)
      have ne_b4_b6 : b4 ≠ b6 := Nat.ne_of_lt (Nat.lt_of_lt_of_le lt44__b4 szb6)
      show Runs p.tables e below _ (T44_.setTop (mkF m 259 #[.val (.int i0), .val (.int i1), .val (.int i2), .val (.int i3), .val (.int (3 : Int32)), .val (.int ps), .val (.int ch), .val (.ref b1), .val (.ref b2), .val (.ref b3), .val (.ref b4), .unset, .val (.int (2 : Int32)), .unset, .unset] [(.ref b5)]))
      refine Runs.st (fun t' k' => XS.astore X44_.here hx rfl (hb hby at_259) rfl rfl (l' := #[.val (.int i0), .val (.int i1), .val (.int i2), .val (.int i3), .val (.int (3 : Int32)), .val (.int ps), .val (.int ch), .val (.ref b1), .val (.ref b2), .val (.ref b3), .val (.ref b4), .val (.ref b5), .val (.int (2 : Int32)), .unset, .unset]) rfl k') ?_
      refine Runs.st (fun t' k' => XS.goto X44_.here hx rfl (pc0 := 261) (pc' := 275) rfl (hb hby at_261) (by decide) (by decide) k') ?_
      refine Runs.st (fun t' k' => XS.goto X44_.here hx rfl (pc0 := 275) (pc' := 289) rfl (hb hby at_275) (by decide) (by decide) k') ?_
      refine Runs.st (fun t' k' => XS.aload X44_.here hx rfl (hb hby at_289) rfl rfl k') ?_
      obtain ⟨cq45_, kq45_, q45_a, q45_b, q45_c⟩ := isOf hZ rfl E_b5
      obtain ⟨_, _, ⟨T45_, L45_, k45_, n45_⟩, -, X45_, ⟨Lc45_, hQ45_, l45_, y45_, z45_⟩, st45_⟩ := X44_.virtualBack hx (y := (⟨"java/lang/String", "length", "()I"⟩ : MethodName)) (z := (⟨"java/lang/String", "length", "()I"⟩ : MethodName)) hown (mvT hZ (hw _ (List.mem_of_getElem? (i := 31) rfl))) (mvT hZ (hw _ (List.mem_of_getElem? (i := 32) rfl))) (notFace_of_selects (args := #[]) (mvT hZ (hw _ (List.mem_of_getElem? (i := 34) rfl)))) (mvT hZ (hw _ (List.mem_of_getElem? (i := 34) rfl))) (mvT hZ (hw _ (List.mem_of_getElem? (i := 33) rfl))) (by decide) (backOf (W := 0) (rmLen l Z a0 hw [] b5 zc b6 (1 : Int32) _ _ (1 : Int32) T44_.heap n0 sz E_b5 (Sc.ext old.2) hzc Fc_b5 Fv_b5 V_b6 (by decide)) hZ (hw _ (List.mem_of_getElem? (i := 35) rfl)) (hw _ (List.mem_of_getElem? (i := 4) rfl)) (by decide) (by decide)) q45_a q45_c (g := (mkF m 291 #[.val (.int i0), .val (.int i1), .val (.int i2), .val (.int i3), .val (.int (3 : Int32)), .val (.int ps), .val (.int ch), .val (.ref b1), .val (.ref b2), .val (.ref b3), .val (.ref b4), .val (.ref b5), .val (.int (2 : Int32)), .unset, .unset] [(.ref b5)])) rfl (by rw [hml]; rfl) (Steps.refl _) (argsL := []) (rest := []) (lenOf pd__28_29I rfl) rfl (by show 2 * 0 + _ ≤ _; exact Nat.le_of_eq rfl) (hb hby at_291) (fun _ _ => ⟨rfl, rfl, (by decide : 6 + 0 ≤ _), (by decide : 20 + 0 ≤ _)⟩)
      dsimp only [Pt.U, Pt.locs, Pt.cells, Pt.slots] at X45_ l45_ y45_ z45_ st45_ hQ45_
      subst l45_ y45_ z45_
      obtain ⟨rfl, N45_q, e45_⟩ := hQ45_
      have N45_ := Fr.app N44_ N45_q
      refine Runs.tr st45_ ?_
      replace X45_ := wider X45_ (c' := 6) (s' := 20) (by decide) (by decide)
      show Runs p.tables e below _ (T45_.setTop (mkF m 294 #[.val (.int i0), .val (.int i1), .val (.int i2), .val (.int i3), .val (.int (3 : Int32)), .val (.int ps), .val (.int ch), .val (.ref b1), .val (.ref b2), .val (.ref b3), .val (.ref b4), .val (.ref b5), .val (.int (2 : Int32)), .unset, .unset] [(.int (1 : Int32))]))
      refine Runs.st (fun t' k' => XS.iconst X45_.here hx rfl (hb hby at_294) k') ?_
      refine Runs.st (fun t' k' => XS.icmpYes X45_.here hx rfl (pc0 := 295) (pc' := 357) rfl (hb hby at_295) rfl (feq (by decide)).2 (by decide) (by decide) k') ?_
      show Runs p.tables e below _ (T45_.setTop (mkF m 357 #[.val (.int i0), .val (.int i1), .val (.int i2), .val (.int i3), .val (.int (3 : Int32)), .val (.int ps), .val (.int ch), .val (.ref b1), .val (.ref b2), .val (.ref b3), .val (.ref b4), .val (.ref b5), .val (.int (2 : Int32)), .unset, .unset] []))
      refine Runs.st (fun t' k' => XS.iconst X45_.here hx rfl (hb hby at_357) k') ?_
      refine Runs.st (fun t' k' => XS.istore X45_.here hx rfl (hb hby at_358) rfl (l' := #[.val (.int i0), .val (.int i1), .val (.int i2), .val (.int i3), .val (.int (3 : Int32)), .val (.int ps), .val (.int ch), .val (.ref b1), .val (.ref b2), .val (.ref b3), .val (.ref b4), .val (.ref b5), .val (.int (0 : Int32)), .unset, .unset]) rfl k') ?_
      refine Runs.st (fun t' k' => XS.iload X45_.here hx rfl (hb hby at_360) rfl k') ?_
      refine Runs.st (fun t' k' => XS.ifYes X45_.here hx rfl (pc0 := 362) (pc' := 371) rfl (hb hby at_362) rfl ((if0 _ _).trans (teq rfl).1) (by decide) (by decide) k') ?_
      show Runs p.tables e below _ (T45_.setTop (mkF m 371 #[.val (.int i0), .val (.int i1), .val (.int i2), .val (.int i3), .val (.int (3 : Int32)), .val (.int ps), .val (.int ch), .val (.ref b1), .val (.ref b2), .val (.ref b3), .val (.ref b4), .val (.ref b5), .val (.int (0 : Int32)), .unset, .unset] []))
      obtain ⟨T46_, X46_, e46_, st46_⟩ := getS2 X45_ hx hZ hown (host := "") (Or.inl (hw _ (List.mem_of_getElem? (i := 86) rfl))) Via.refl e45_ (S1.ext old.2) (g := (mkF m 371 #[.val (.int i0), .val (.int i1), .val (.int i2), .val (.int i3), .val (.int (3 : Int32)), .val (.int ps), .val (.int ch), .val (.ref b1), .val (.ref b2), .val (.ref b3), .val (.ref b4), .val (.ref b5), .val (.int (0 : Int32)), .unset, .unset] [])) rfl (hb hby at_371)
      refine Runs.st (st46_) ?_
      show Runs p.tables e below _ (T46_.setTop (mkF m 374 #[.val (.int i0), .val (.int i1), .val (.int i2), .val (.int i3), .val (.int (3 : Int32)), .val (.int ps), .val (.int ch), .val (.ref b1), .val (.ref b2), .val (.ref b3), .val (.ref b4), .val (.ref b5), .val (.int (0 : Int32)), .unset, .unset] [(.ref om)]))
      refine Runs.st (fun t' k' => XS.astore X46_.here hx rfl (hb hby at_374) rfl rfl (l' := #[.val (.int i0), .val (.int i1), .val (.int i2), .val (.int i3), .val (.int (3 : Int32)), .val (.int ps), .val (.int ch), .val (.ref b1), .val (.ref b2), .val (.ref b3), .val (.ref b4), .val (.ref b5), .val (.int (0 : Int32)), .val (.ref om), .unset]) rfl k') ?_
      refine Runs.st (fun t' k' => XS.aload X46_.here hx rfl (hb hby at_376) rfl rfl k') ?_
      obtain ⟨_, _, ⟨T47_, L47_, k47_, n47_⟩, -, X47_, ⟨Lc47_, hQ47_, l47_, y47_, z47_⟩, st47_⟩ := Jvm.LawKit.callS X46_ hx (y := (⟨"com/example/standing_order/standingorder/api/InstanceForm", "ofEngine", "(Ljava/lang/String;)Lcom/example/standing_order/standingorder/api/InstanceForm;"⟩ : MethodName)) hown (mvT hZ (hw _ (List.mem_of_getElem? (i := 66) rfl))) (mvT hZ (hw _ (List.mem_of_getElem? (i := 67) rfl))) (mvT hZ (hw _ (List.mem_of_getElem? (i := 64) rfl))) (mvT hZ (hw _ (List.mem_of_getElem? (i := 68) rfl))) (by decide) (backOf (W := 0) (rmON l Z a0 hw [] b5 oe om s0 zc b6 v0 _ kv0 (1 : Int32) _ T44_.heap n0 sz (S0.ext old.2) (S1.ext old.2) (Fs0.ext old.2) (Ne.symm (old.ne Es0.lt g_b5)) (Sc.ext old.2) hzc E_b5 Fc_b5 Fv_b5 (Es0.ext old.2) (Fc0.ext old.2) (Fv0.ext old.2) V_b6 (V0.ext old.2) (by decide)) hZ (hw _ (List.mem_of_getElem? (i := 68) rfl)) (hw _ (List.mem_of_getElem? (i := 64) rfl)) (by decide) (by decide)) (g := (mkF m 378 #[.val (.int i0), .val (.int i1), .val (.int i2), .val (.int i3), .val (.int (3 : Int32)), .val (.int ps), .val (.int ch), .val (.ref b1), .val (.ref b2), .val (.ref b3), .val (.ref b4), .val (.ref b5), .val (.int (0 : Int32)), .val (.ref om), .unset] [(.ref b5)])) rfl (by rw [hml]; rfl) (argsL := [(.ref b5)]) (rest := []) (lenOf pd__28Ljava_2flang_2fString_3b_29Lcom_2fexample_2fstanding_order_2fstandingorder_2fapi_2fInstanceForm_3b rfl) rfl (by show 2 * 0 + _ ≤ _; exact Nat.le_of_eq rfl) (hb hby at_378) (fun _ _ => ⟨rfl, e46_, (by decide : 6 + 0 ≤ _), (by decide : 20 + 0 ≤ _)⟩)
      dsimp only [Pt.U, Pt.locs, Pt.cells, Pt.slots] at X47_ l47_ y47_ z47_ st47_ hQ47_
      subst l47_ y47_ z47_
      obtain ⟨rfl, N47_q, e47_⟩ := hQ47_
      have N47_ := Fr.app N45_ N47_q
      refine Runs.st (st47_) ?_
      replace X47_ := wider X47_ (c' := 6) (s' := 20) (by decide) (by decide)
      show Runs p.tables e below _ (T47_.setTop (mkF m 381 #[.val (.int i0), .val (.int i1), .val (.int i2), .val (.int i3), .val (.int (3 : Int32)), .val (.int ps), .val (.int ch), .val (.ref b1), .val (.ref b2), .val (.ref b3), .val (.ref b4), .val (.ref b5), .val (.int (0 : Int32)), .val (.ref om), .unset] [(.ref om)]))
      refine Runs.st (fun t' k' => XS.astore X47_.here hx rfl (hb hby at_381) rfl rfl (l' := #[.val (.int i0), .val (.int i1), .val (.int i2), .val (.int i3), .val (.int (3 : Int32)), .val (.int ps), .val (.int ch), .val (.ref b1), .val (.ref b2), .val (.ref b3), .val (.ref b4), .val (.ref b5), .val (.int (0 : Int32)), .val (.ref om), .val (.ref om)]) rfl k') ?_
      refine Runs.st (fun t' k' => XS.aload X47_.here hx rfl (hb hby at_383) rfl rfl k') ?_
      refine Runs.st (fun t' k' => XS.aload X47_.here hx rfl (hb hby at_385) rfl rfl k') ?_
      refine Runs.st (fun t' k' => Jvm.RoadKit.acmp (g := (mkF m 387 #[.val (.int i0), .val (.int i1), .val (.int i2), .val (.int i3), .val (.int (3 : Int32)), .val (.int ps), .val (.int ch), .val (.ref b1), .val (.ref b2), .val (.ref b3), .val (.ref b4), .val (.ref b5), .val (.int (0 : Int32)), .val (.ref om), .val (.ref om)] [(.ref om), (.ref om)])) X47_ hx rfl rfl rfl (pc0 := 387) (pc' := 390) (same := true) rfl (hb hby at_387) rfl (decide_eq_true rfl) (by decide) (by decide) k') ?_
      show Runs p.tables e below _ (T47_.setTop (mkF m 390 #[.val (.int i0), .val (.int i1), .val (.int i2), .val (.int i3), .val (.int (3 : Int32)), .val (.int ps), .val (.int ch), .val (.ref b1), .val (.ref b2), .val (.ref b3), .val (.ref b4), .val (.ref b5), .val (.int (0 : Int32)), .val (.ref om), .val (.ref om)] []))
      refine Runs.st (fun t' k' => XS.aload X47_.here hx rfl (hb hby at_390) rfl rfl k') ?_
      obtain ⟨cq48_, kq48_, q48_a, q48_b, q48_c⟩ := isOf hZ e47_ (E1.ext old.2)
      obtain ⟨_, _, ⟨T48_, L48_, k48_, n48_⟩, -, X48_, ⟨Lc48_, hQ48_, l48_, y48_, z48_⟩, st48_⟩ := X47_.virtualBack hx (y := (⟨"com/example/standing_order/standingorder/api/InstanceForm", "engine", "()Ljava/lang/String;"⟩ : MethodName)) (z := (⟨"com/example/standing_order/standingorder/api/InstanceForm", "engine", "()Ljava/lang/String;"⟩ : MethodName)) hown (mvT hZ (hw _ (List.mem_of_getElem? (i := 81) rfl))) (mvT hZ (hw _ (List.mem_of_getElem? (i := 82) rfl))) (notFace_of_selects (args := #[]) (mvT hZ (hw _ (List.mem_of_getElem? (i := 84) rfl)))) (mvT hZ (hw _ (List.mem_of_getElem? (i := 84) rfl))) (mvT hZ (hw _ (List.mem_of_getElem? (i := 83) rfl))) (by decide) (backOf (W := 0) (rmEng l Z a0 hw [] om s1 T44_.heap n0 sz (Fs1.ext old.2)) hZ (hw _ (List.mem_of_getElem? (i := 85) rfl)) (hw _ (List.mem_of_getElem? (i := 64) rfl)) (by decide) (by decide)) q48_a q48_c (g := (mkF m 392 #[.val (.int i0), .val (.int i1), .val (.int i2), .val (.int i3), .val (.int (3 : Int32)), .val (.int ps), .val (.int ch), .val (.ref b1), .val (.ref b2), .val (.ref b3), .val (.ref b4), .val (.ref b5), .val (.int (0 : Int32)), .val (.ref om), .val (.ref om)] [(.ref om)])) rfl (by rw [hml]; rfl) (Steps.refl _) (argsL := []) (rest := []) (lenOf pd__28_29Ljava_2flang_2fString_3b rfl) rfl (by show 2 * 0 + _ ≤ _; exact Nat.le_of_eq rfl) (hb hby at_392) (fun _ _ => ⟨rfl, e47_, (by decide : 6 + 0 ≤ _), (by decide : 20 + 0 ≤ _)⟩)
      dsimp only [Pt.U, Pt.locs, Pt.cells, Pt.slots] at X48_ l48_ y48_ z48_ st48_ hQ48_
      subst l48_ y48_ z48_
      obtain ⟨rfl, N48_q, e48_⟩ := hQ48_
      have N48_ := Fr.app N47_ N48_q
      refine Runs.tr st48_ ?_
      replace X48_ := wider X48_ (c' := 6) (s' := 20) (by decide) (by decide)
      show Runs p.tables e below _ (T48_.setTop (mkF m 395 #[.val (.int i0), .val (.int i1), .val (.int i2), .val (.int i3), .val (.int (3 : Int32)), .val (.int ps), .val (.int ch), .val (.ref b1), .val (.ref b2), .val (.ref b3), .val (.ref b4), .val (.ref b5), .val (.int (0 : Int32)), .val (.ref om), .val (.ref om)] [(.ref s1)]))
      obtain ⟨_, _, ⟨T49_, L49_, k49_, n49_⟩, -, X49_, ⟨Lc49_, hQ49_, l49_, y49_, z49_⟩, st49_⟩ := Jvm.LawKit.callS X48_ hx (y := (⟨"com/example/standing_order/standingorder/api/InstanceForm", "ofEngine", "(Ljava/lang/String;)Lcom/example/standing_order/standingorder/api/InstanceForm;"⟩ : MethodName)) hown (mvT hZ (hw _ (List.mem_of_getElem? (i := 66) rfl))) (mvT hZ (hw _ (List.mem_of_getElem? (i := 67) rfl))) (mvT hZ (hw _ (List.mem_of_getElem? (i := 64) rfl))) (mvT hZ (hw _ (List.mem_of_getElem? (i := 68) rfl))) (by decide) (backOf (W := 0) (rmON l Z a0 hw [] s1 oe om s0 zc v1 v0 kv1 kv0 (7 : Int32) _ T44_.heap n0 sz (S0.ext old.2) (S1.ext old.2) (Fs0.ext old.2) hs10 (Sc.ext old.2) hzc (Es1.ext old.2) (Fc1.ext old.2) (Fv1.ext old.2) (Es0.ext old.2) (Fc0.ext old.2) (Fv0.ext old.2) (V1.ext old.2) (V0.ext old.2) (by decide)) hZ (hw _ (List.mem_of_getElem? (i := 68) rfl)) (hw _ (List.mem_of_getElem? (i := 64) rfl)) (by decide) (by decide)) (g := (mkF m 395 #[.val (.int i0), .val (.int i1), .val (.int i2), .val (.int i3), .val (.int (3 : Int32)), .val (.int ps), .val (.int ch), .val (.ref b1), .val (.ref b2), .val (.ref b3), .val (.ref b4), .val (.ref b5), .val (.int (0 : Int32)), .val (.ref om), .val (.ref om)] [(.ref s1)])) rfl (by rw [hml]; rfl) (argsL := [(.ref s1)]) (rest := []) (lenOf pd__28Ljava_2flang_2fString_3b_29Lcom_2fexample_2fstanding_order_2fstandingorder_2fapi_2fInstanceForm_3b rfl) rfl (by show 2 * 0 + _ ≤ _; exact Nat.le_of_eq rfl) (hb hby at_395) (fun _ _ => ⟨rfl, e48_, (by decide : 6 + 0 ≤ _), (by decide : 20 + 0 ≤ _)⟩)
      dsimp only [Pt.U, Pt.locs, Pt.cells, Pt.slots] at X49_ l49_ y49_ z49_ st49_ hQ49_
      subst l49_ y49_ z49_
      obtain ⟨rfl, N49_q, e49_⟩ := hQ49_
      have N49_ := Fr.app N48_ N49_q
      refine Runs.st (st49_) ?_
      replace X49_ := wider X49_ (c' := 6) (s' := 20) (by decide) (by decide)
      show Runs p.tables e below _ (T49_.setTop (mkF m 398 #[.val (.int i0), .val (.int i1), .val (.int i2), .val (.int i3), .val (.int (3 : Int32)), .val (.int ps), .val (.int ch), .val (.ref b1), .val (.ref b2), .val (.ref b3), .val (.ref b4), .val (.ref b5), .val (.int (0 : Int32)), .val (.ref om), .val (.ref om)] [(.ref om)]))
      refine Runs.st (fun t' k' => XS.aload X49_.here hx rfl (hb hby at_398) rfl rfl k') ?_
      refine Runs.st (fun t' k' => Jvm.RoadKit.acmp (g := (mkF m 400 #[.val (.int i0), .val (.int i1), .val (.int i2), .val (.int i3), .val (.int (3 : Int32)), .val (.int ps), .val (.int ch), .val (.ref b1), .val (.ref b2), .val (.ref b3), .val (.ref b4), .val (.ref b5), .val (.int (0 : Int32)), .val (.ref om), .val (.ref om)] [(.ref om), (.ref om)])) X49_ hx rfl rfl rfl (pc0 := 400) (pc' := 403) (same := true) rfl (hb hby at_400) rfl (decide_eq_true rfl) (by decide) (by decide) k') ?_
      show Runs p.tables e below _ (T49_.setTop (mkF m 403 #[.val (.int i0), .val (.int i1), .val (.int i2), .val (.int i3), .val (.int (3 : Int32)), .val (.int ps), .val (.int ch), .val (.ref b1), .val (.ref b2), .val (.ref b3), .val (.ref b4), .val (.ref b5), .val (.int (0 : Int32)), .val (.ref om), .val (.ref om)] []))
      refine Runs.st (fun t' k' => XS.iconst X49_.here hx rfl (hb hby at_403) k') ?_
      refine Runs.st (fun t' k' => XS.goto X49_.here hx rfl (pc0 := 404) (pc' := 408) rfl (hb hby at_404) (by decide) (by decide) k') ?_
      refine Runs.retW (s := s) (vm₁ := s.vm) X49_ hS (by rw [e49_]; exact hk) hlk (v := (some (.int (1 : Int32)))) (fun h => by rw [hret] at h; cases h) (by decide) (by decide) ?_ (fun fs hr => retN X49_ hx (t := .boolean) hret (by simp) (hb hby at_408) hr)
      try rw [e49_]
      exact ⟨rfl, N49_⟩
    · skip
      show Runs p.tables e below _ (T19_.setTop (mkF m 207 #[.val (.int i0), .val (.int i1), .val (.int i2), .val (.int i3), .val (.int (3 : Int32)), .val (.int ps), .val (.int ch), .val (.ref b1), .val (.ref b2), .val (.ref b3), .val (.ref b4), .unset, .unset, .unset, .unset] [(.int (3 : Int32))]))
      refine Runs.st (fun t' k' => XS.istore X19_.here hx rfl (hb hby at_207) rfl (l' := #[.val (.int i0), .val (.int i1), .val (.int i2), .val (.int i3), .val (.int (3 : Int32)), .val (.int ps), .val (.int ch), .val (.ref b1), .val (.ref b2), .val (.ref b3), .val (.ref b4), .unset, .val (.int (3 : Int32)), .unset, .unset]) rfl k') ?_
      refine Runs.st (fun t' k' => XS.iload X19_.here hx rfl (hb hby at_209) rfl k') ?_
      refine Runs.st (fun t' k' => XS.ifYes X19_.here hx rfl (pc0 := 211) (pc' := 228) rfl (hb hby at_211) rfl ((if0 _ _).trans (feq (by decide)).2) (by decide) (by decide) k') ?_
      show Runs p.tables e below _ (T19_.setTop (mkF m 228 #[.val (.int i0), .val (.int i1), .val (.int i2), .val (.int i3), .val (.int (3 : Int32)), .val (.int ps), .val (.int ch), .val (.ref b1), .val (.ref b2), .val (.ref b3), .val (.ref b4), .unset, .val (.int (3 : Int32)), .unset, .unset] []))
      refine Runs.st (fun t' k' => XS.iload X19_.here hx rfl (hb hby at_228) rfl k') ?_
      refine Runs.st (fun t' k' => XS.iconst X19_.here hx rfl (hb hby at_230) k') ?_
      refine Runs.st (fun t' k' => XS.icmpYes X19_.here hx rfl (pc0 := 231) (pc' := 248) rfl (hb hby at_231) rfl (feq (by decide)).2 (by decide) (by decide) k') ?_
      show Runs p.tables e below _ (T19_.setTop (mkF m 248 #[.val (.int i0), .val (.int i1), .val (.int i2), .val (.int i3), .val (.int (3 : Int32)), .val (.int ps), .val (.int ch), .val (.ref b1), .val (.ref b2), .val (.ref b3), .val (.ref b4), .unset, .val (.int (3 : Int32)), .unset, .unset] []))
      refine Runs.st (fun t' k' => XS.iload X19_.here hx rfl (hb hby at_248) rfl k') ?_
      refine Runs.st (fun t' k' => XS.iconst X19_.here hx rfl (hb hby at_250) k') ?_
      refine Runs.st (fun t' k' => XS.icmpYes X19_.here hx rfl (pc0 := 251) (pc' := 264) rfl (hb hby at_251) rfl (feq (by decide)).2 (by decide) (by decide) k') ?_
      show Runs p.tables e below _ (T19_.setTop (mkF m 264 #[.val (.int i0), .val (.int i1), .val (.int i2), .val (.int i3), .val (.int (3 : Int32)), .val (.int ps), .val (.int ch), .val (.ref b1), .val (.ref b2), .val (.ref b3), .val (.ref b4), .unset, .val (.int (3 : Int32)), .unset, .unset] []))
      obtain ⟨T50_, h50_, X50_, e50_, E50_, A50_, D50_, -, st50_⟩ := newO X19_ hx hZ hown (hw _ (List.mem_of_getElem? (i := 2) rfl)) (hw _ (List.mem_of_getElem? (i := 3) rfl)) (hw _ (List.mem_of_getElem? (i := 4) rfl)) e19_ (g := (mkF m 264 #[.val (.int i0), .val (.int i1), .val (.int i2), .val (.int i3), .val (.int (3 : Int32)), .val (.int ps), .val (.int ch), .val (.ref b1), .val (.ref b2), .val (.ref b3), .val (.ref b4), .unset, .val (.int (3 : Int32)), .unset, .unset] [])) rfl (hb hby at_264) (by decide) (by decide)
      refine Runs.st (st50_) ?_
      obtain ⟨b5, g50_⟩ : ∃ z, z = h19_.size := ⟨_, rfl⟩
      rw [← g50_] at A50_ D50_
      try rw [← g50_]
      have g_b5 : n0 ≤ b5 := Nat.le_trans sz (Nat.le_of_eq g50_.symm)
      have sz_b5 : h0.size ≤ b5 := Nat.le_trans K.1 (Nat.le_of_eq g50_.symm)
      have ne_b1_b5 : b1 ≠ b5 := Nat.ne_of_lt (Nat.lt_of_lt_of_le V_b1.lt (Nat.le_of_eq g50_.symm))
      have ne_b2_b5 : b2 ≠ b5 := Nat.ne_of_lt (Nat.lt_of_lt_of_le V_b2.lt (Nat.le_of_eq g50_.symm))
      have ne_b3_b5 : b3 ≠ b5 := Nat.ne_of_lt (Nat.lt_of_lt_of_le V_b3.lt (Nat.le_of_eq g50_.symm))
      have ne_b4_b5 : b4 ≠ b5 := Nat.ne_of_lt (Nat.lt_of_lt_of_le V_b4.lt (Nat.le_of_eq g50_.symm))
      replace old := old.ext E50_
      replace V_b1 := V_b1.ext E50_
      replace V_b2 := V_b2.ext E50_
      replace V_b3 := V_b3.ext E50_
      replace V_b4 := V_b4.ext E50_
      replace sz := Nat.le_trans sz E50_.1
      replace K := K.ext E50_
      replace hk := Nat.le_trans hk E50_.1
      have E_b5 := A50_
      have F_b5_coder : Fld Z h50_ b5 "java/lang/String" "coder" "B" (.int (0 : Int32)) := D50_ (Or.inr (hw _ (List.mem_of_getElem? (i := 28) rfl))) (ty := .byte) (by decide)
      have F_b5_value : Fld Z h50_ b5 "java/lang/String" "value" "[B" .null := D50_ (Or.inr (hw _ (List.mem_of_getElem? (i := 30) rfl))) (ty := (.array .byte)) (by decide)
      show Runs p.tables e below _ (T50_.setTop (mkF m 267 #[.val (.int i0), .val (.int i1), .val (.int i2), .val (.int i3), .val (.int (3 : Int32)), .val (.int ps), .val (.int ch), .val (.ref b1), .val (.ref b2), .val (.ref b3), .val (.ref b4), .unset, .val (.int (3 : Int32)), .unset, .unset] [(.ref b5)]))
      refine Runs.st (fun t' k' => XS.dup X50_.here hx rfl (hb hby at_267) rfl rfl k') ?_
      refine Runs.st (fun t' k' => XS.aload X50_.here hx rfl (hb hby at_268) rfl rfl k') ?_
      obtain ⟨_, _, ⟨T51_, L51_, k51_, n51_⟩, -, X51_, hS51_, hg51_, ⟨Lc51_, hQ51_, l51_, y51_, z51_, HR51_⟩, st51_⟩ := (show Stand p l e room_1 (s.setVm s.vm) m _ below meth c _ _ _ _ from X50_).specialBackS hx (y := (⟨"java/lang/String", "<init>", "([C)V"⟩ : MethodName)) rfl hown (mvT hZ (hw _ (List.mem_of_getElem? (i := 5) rfl))) (mvT hZ (hw _ (List.mem_of_getElem? (i := 6) rfl))) (mvT hZ (hw _ (List.mem_of_getElem? (i := 7) rfl))) (by decide) (backOfSH (W := 1) (rmIE l Z a0 hw [] b5 b4 _ h50_ n0 sz E_b5 F_b5_value F_b5_coder g_b5 hEL V_b4) hZ (hw _ (List.mem_of_getElem? (i := 7) rfl)) (hw _ (List.mem_of_getElem? (i := 4) rfl)) (by decide) (by decide) hEL (by rw [hsZ]; exact CHv.ext old.2 hC0)) (g := (mkF m 270 #[.val (.int i0), .val (.int i1), .val (.int i2), .val (.int i3), .val (.int (3 : Int32)), .val (.int ps), .val (.int ch), .val (.ref b1), .val (.ref b2), .val (.ref b3), .val (.ref b4), .unset, .val (.int (3 : Int32)), .unset, .unset] [(.ref b4), (.ref b5), (.ref b5)])) rfl (by rw [hml]; rfl) (Steps.refl _) (a := b5) (argsL := [(.ref b4)]) (rest := [(.ref b5)]) (lenOf pd__28_5bC_29V rfl) rfl (by show 2 * 0 + _ ≤ _; exact Nat.le_of_eq rfl) (hb hby at_270) (fun _ _ => ⟨rfl, e50_, (by decide : 5 + 2 ≤ _), (by decide : 19 + 4 ≤ _)⟩)
      dsimp only [Pt.U] at hS51_ hg51_
      dsimp only [Pt.U] at HR51_
      dsimp only [Pt.U, Pt.locs, Pt.cells, Pt.slots] at X51_ l51_ y51_ z51_ st51_ hQ51_
      subst l51_ y51_ z51_
      obtain ⟨rfl, N51_q, K51_, E_b5, Fc_b5, b6, kb6, Fv_b5, V_b6⟩ := hQ51_
      have N51_ := Fr.app N18_ N51_q
      replace hS := foldS (vm0 := s.vm) (T := T50_) hS (by rw [e50_]; exact hk) hS51_ hg51_
      have hk := Nat.le_refl T51_.heap.size
      replace hZ : Z.Warmed39 (s.setVm T51_.vm).vm := State.Warmed39.trans (t := s) hZ0 hS.1
      replace hown : (s.setVm T51_.vm).vm.findClass "com/example/standing_order/standingorder/api/InstanceFormOfEnginePinLaw" = some m.cls := by rw [show (s.setVm T51_.vm).vm = T51_.vm from rfl, hS.1.alike.findClass]; exact hown0
      refine Runs.tr st51_ ?_
      replace X51_ := wider X51_ (c' := 7) (s' := 23) (by decide) (by decide)
      replace old := old.keep K51_ (allS g_b5 all0)
      replace V_b1 := V_b1.keep K51_ (ninS ne_b1_b5 nin0)
      replace V_b2 := V_b2.keep K51_ (ninS ne_b2_b5 nin0)
      replace V_b3 := V_b3.keep K51_ (ninS ne_b3_b5 nin0)
      replace V_b4 := V_b4.keep K51_ (ninS ne_b4_b5 nin0)
      replace sz := Nat.le_trans sz K51_.1
      replace K := K.trans K51_ (allS (Or.inr sz_b5) all0)
      show Runs p.tables e below _ (T51_.setTop (mkF m 273 #[.val (.int i0), .val (.int i1), .val (.int i2), .val (.int i3), .val (.int (3 : Int32)), .val (.int ps), .val (.int ch), .val (.ref b1), .val (.ref b2), .val (.ref b3), .val (.ref b4), .unset, .val (.int (3 : Int32)), .unset, .unset] [(.ref b5)]))
      refine Runs.st (fun t' k' => XS.astore X51_.here hx rfl (hb hby at_273) rfl rfl (l' := #[.val (.int i0), .val (.int i1), .val (.int i2), .val (.int i3), .val (.int (3 : Int32)), .val (.int ps), .val (.int ch), .val (.ref b1), .val (.ref b2), .val (.ref b3), .val (.ref b4), .val (.ref b5), .val (.int (3 : Int32)), .unset, .unset]) rfl k') ?_
      refine Runs.st (fun t' k' => XS.goto X51_.here hx rfl (pc0 := 275) (pc' := 289) rfl (hb hby at_275) (by decide) (by decide) k') ?_
      refine Runs.st (fun t' k' => XS.aload X51_.here hx rfl (hb hby at_289) rfl rfl k') ?_
      obtain ⟨cq52_, kq52_, q52_a, q52_b, q52_c⟩ := isOf hZ rfl E_b5
      obtain ⟨_, _, ⟨T52_, L52_, k52_, n52_⟩, -, X52_, ⟨Lc52_, hQ52_, l52_, y52_, z52_⟩, st52_⟩ := X51_.virtualBack hx (y := (⟨"java/lang/String", "length", "()I"⟩ : MethodName)) (z := (⟨"java/lang/String", "length", "()I"⟩ : MethodName)) hown (mvT hZ (hw _ (List.mem_of_getElem? (i := 31) rfl))) (mvT hZ (hw _ (List.mem_of_getElem? (i := 32) rfl))) (notFace_of_selects (args := #[]) (mvT hZ (hw _ (List.mem_of_getElem? (i := 34) rfl)))) (mvT hZ (hw _ (List.mem_of_getElem? (i := 34) rfl))) (mvT hZ (hw _ (List.mem_of_getElem? (i := 33) rfl))) (by decide) (backOf (W := 0) (rmLen l Z a0 hw [] b5 zc b6 (0 : Int32) _ _ (0 : Int32) T51_.heap n0 sz E_b5 (Sc.ext old.2) hzc Fc_b5 Fv_b5 V_b6 (by decide)) hZ (hw _ (List.mem_of_getElem? (i := 35) rfl)) (hw _ (List.mem_of_getElem? (i := 4) rfl)) (by decide) (by decide)) q52_a q52_c (g := (mkF m 291 #[.val (.int i0), .val (.int i1), .val (.int i2), .val (.int i3), .val (.int (3 : Int32)), .val (.int ps), .val (.int ch), .val (.ref b1), .val (.ref b2), .val (.ref b3), .val (.ref b4), .val (.ref b5), .val (.int (3 : Int32)), .unset, .unset] [(.ref b5)])) rfl (by rw [hml]; rfl) (Steps.refl _) (argsL := []) (rest := []) (lenOf pd__28_29I rfl) rfl (by show 2 * 0 + _ ≤ _; exact Nat.le_of_eq rfl) (hb hby at_291) (fun _ _ => ⟨rfl, rfl, (by decide : 7 + 0 ≤ _), (by decide : 23 + 0 ≤ _)⟩)
      dsimp only [Pt.U, Pt.locs, Pt.cells, Pt.slots] at X52_ l52_ y52_ z52_ st52_ hQ52_
      subst l52_ y52_ z52_
      obtain ⟨rfl, N52_q, e52_⟩ := hQ52_
      have N52_ := Fr.app N51_ N52_q
      refine Runs.tr st52_ ?_
      replace X52_ := wider X52_ (c' := 7) (s' := 23) (by decide) (by decide)
      show Runs p.tables e below _ (T52_.setTop (mkF m 294 #[.val (.int i0), .val (.int i1), .val (.int i2), .val (.int i3), .val (.int (3 : Int32)), .val (.int ps), .val (.int ch), .val (.ref b1), .val (.ref b2), .val (.ref b3), .val (.ref b4), .val (.ref b5), .val (.int (3 : Int32)), .unset, .unset] [(.int (0 : Int32))]))
      refine Runs.st (fun t' k' => XS.iconst X52_.here hx rfl (hb hby at_294) k') ?_
      refine Runs.st (fun t' k' => XS.icmpYes X52_.here hx rfl (pc0 := 295) (pc' := 357) rfl (hb hby at_295) rfl (feq (by decide)).2 (by decide) (by decide) k') ?_
      show Runs p.tables e below _ (T52_.setTop (mkF m 357 #[.val (.int i0), .val (.int i1), .val (.int i2), .val (.int i3), .val (.int (3 : Int32)), .val (.int ps), .val (.int ch), .val (.ref b1), .val (.ref b2), .val (.ref b3), .val (.ref b4), .val (.ref b5), .val (.int (3 : Int32)), .unset, .unset] []))
      refine Runs.st (fun t' k' => XS.iconst X52_.here hx rfl (hb hby at_357) k') ?_
      refine Runs.st (fun t' k' => XS.istore X52_.here hx rfl (hb hby at_358) rfl (l' := #[.val (.int i0), .val (.int i1), .val (.int i2), .val (.int i3), .val (.int (3 : Int32)), .val (.int ps), .val (.int ch), .val (.ref b1), .val (.ref b2), .val (.ref b3), .val (.ref b4), .val (.ref b5), .val (.int (0 : Int32)), .unset, .unset]) rfl k') ?_
      refine Runs.st (fun t' k' => XS.iload X52_.here hx rfl (hb hby at_360) rfl k') ?_
      refine Runs.st (fun t' k' => XS.ifYes X52_.here hx rfl (pc0 := 362) (pc' := 371) rfl (hb hby at_362) rfl ((if0 _ _).trans (teq rfl).1) (by decide) (by decide) k') ?_
      show Runs p.tables e below _ (T52_.setTop (mkF m 371 #[.val (.int i0), .val (.int i1), .val (.int i2), .val (.int i3), .val (.int (3 : Int32)), .val (.int ps), .val (.int ch), .val (.ref b1), .val (.ref b2), .val (.ref b3), .val (.ref b4), .val (.ref b5), .val (.int (0 : Int32)), .unset, .unset] []))
      obtain ⟨T53_, X53_, e53_, st53_⟩ := getS2 X52_ hx hZ hown (host := "") (Or.inl (hw _ (List.mem_of_getElem? (i := 86) rfl))) Via.refl e52_ (S1.ext old.2) (g := (mkF m 371 #[.val (.int i0), .val (.int i1), .val (.int i2), .val (.int i3), .val (.int (3 : Int32)), .val (.int ps), .val (.int ch), .val (.ref b1), .val (.ref b2), .val (.ref b3), .val (.ref b4), .val (.ref b5), .val (.int (0 : Int32)), .unset, .unset] [])) rfl (hb hby at_371)
      refine Runs.st (st53_) ?_
      show Runs p.tables e below _ (T53_.setTop (mkF m 374 #[.val (.int i0), .val (.int i1), .val (.int i2), .val (.int i3), .val (.int (3 : Int32)), .val (.int ps), .val (.int ch), .val (.ref b1), .val (.ref b2), .val (.ref b3), .val (.ref b4), .val (.ref b5), .val (.int (0 : Int32)), .unset, .unset] [(.ref om)]))
      refine Runs.st (fun t' k' => XS.astore X53_.here hx rfl (hb hby at_374) rfl rfl (l' := #[.val (.int i0), .val (.int i1), .val (.int i2), .val (.int i3), .val (.int (3 : Int32)), .val (.int ps), .val (.int ch), .val (.ref b1), .val (.ref b2), .val (.ref b3), .val (.ref b4), .val (.ref b5), .val (.int (0 : Int32)), .val (.ref om), .unset]) rfl k') ?_
      refine Runs.st (fun t' k' => XS.aload X53_.here hx rfl (hb hby at_376) rfl rfl k') ?_
      obtain ⟨_, _, ⟨T54_, L54_, k54_, n54_⟩, -, X54_, ⟨Lc54_, hQ54_, l54_, y54_, z54_⟩, st54_⟩ := Jvm.LawKit.callS X53_ hx (y := (⟨"com/example/standing_order/standingorder/api/InstanceForm", "ofEngine", "(Ljava/lang/String;)Lcom/example/standing_order/standingorder/api/InstanceForm;"⟩ : MethodName)) hown (mvT hZ (hw _ (List.mem_of_getElem? (i := 66) rfl))) (mvT hZ (hw _ (List.mem_of_getElem? (i := 67) rfl))) (mvT hZ (hw _ (List.mem_of_getElem? (i := 64) rfl))) (mvT hZ (hw _ (List.mem_of_getElem? (i := 68) rfl))) (by decide) (backOf (W := 0) (rmON l Z a0 hw [] b5 oe om s0 zc b6 v0 _ kv0 (0 : Int32) _ T51_.heap n0 sz (S0.ext old.2) (S1.ext old.2) (Fs0.ext old.2) (Ne.symm (old.ne Es0.lt g_b5)) (Sc.ext old.2) hzc E_b5 Fc_b5 Fv_b5 (Es0.ext old.2) (Fc0.ext old.2) (Fv0.ext old.2) V_b6 (V0.ext old.2) (by decide)) hZ (hw _ (List.mem_of_getElem? (i := 68) rfl)) (hw _ (List.mem_of_getElem? (i := 64) rfl)) (by decide) (by decide)) (g := (mkF m 378 #[.val (.int i0), .val (.int i1), .val (.int i2), .val (.int i3), .val (.int (3 : Int32)), .val (.int ps), .val (.int ch), .val (.ref b1), .val (.ref b2), .val (.ref b3), .val (.ref b4), .val (.ref b5), .val (.int (0 : Int32)), .val (.ref om), .unset] [(.ref b5)])) rfl (by rw [hml]; rfl) (argsL := [(.ref b5)]) (rest := []) (lenOf pd__28Ljava_2flang_2fString_3b_29Lcom_2fexample_2fstanding_order_2fstandingorder_2fapi_2fInstanceForm_3b rfl) rfl (by show 2 * 0 + _ ≤ _; exact Nat.le_of_eq rfl) (hb hby at_378) (fun _ _ => ⟨rfl, e53_, (by decide : 7 + 0 ≤ _), (by decide : 23 + 0 ≤ _)⟩)
      dsimp only [Pt.U, Pt.locs, Pt.cells, Pt.slots] at X54_ l54_ y54_ z54_ st54_ hQ54_
      subst l54_ y54_ z54_
      obtain ⟨rfl, N54_q, e54_⟩ := hQ54_
      have N54_ := Fr.app N52_ N54_q
      refine Runs.st (st54_) ?_
      replace X54_ := wider X54_ (c' := 7) (s' := 23) (by decide) (by decide)
      show Runs p.tables e below _ (T54_.setTop (mkF m 381 #[.val (.int i0), .val (.int i1), .val (.int i2), .val (.int i3), .val (.int (3 : Int32)), .val (.int ps), .val (.int ch), .val (.ref b1), .val (.ref b2), .val (.ref b3), .val (.ref b4), .val (.ref b5), .val (.int (0 : Int32)), .val (.ref om), .unset] [(.ref om)]))
      refine Runs.st (fun t' k' => XS.astore X54_.here hx rfl (hb hby at_381) rfl rfl (l' := #[.val (.int i0), .val (.int i1), .val (.int i2), .val (.int i3), .val (.int (3 : Int32)), .val (.int ps), .val (.int ch), .val (.ref b1), .val (.ref b2), .val (.ref b3), .val (.ref b4), .val (.ref b5), .val (.int (0 : Int32)), .val (.ref om), .val (.ref om)]) rfl k') ?_
      refine Runs.st (fun t' k' => XS.aload X54_.here hx rfl (hb hby at_383) rfl rfl k') ?_
      refine Runs.st (fun t' k' => XS.aload X54_.here hx rfl (hb hby at_385) rfl rfl k') ?_
      refine Runs.st (fun t' k' => Jvm.RoadKit.acmp (g := (mkF m 387 #[.val (.int i0), .val (.int i1), .val (.int i2), .val (.int i3), .val (.int (3 : Int32)), .val (.int ps), .val (.int ch), .val (.ref b1), .val (.ref b2), .val (.ref b3), .val (.ref b4), .val (.ref b5), .val (.int (0 : Int32)), .val (.ref om), .val (.ref om)] [(.ref om), (.ref om)])) X54_ hx rfl rfl rfl (pc0 := 387) (pc' := 390) (same := true) rfl (hb hby at_387) rfl (decide_eq_true rfl) (by decide) (by decide) k') ?_
      show Runs p.tables e below _ (T54_.setTop (mkF m 390 #[.val (.int i0), .val (.int i1), .val (.int i2), .val (.int i3), .val (.int (3 : Int32)), .val (.int ps), .val (.int ch), .val (.ref b1), .val (.ref b2), .val (.ref b3), .val (.ref b4), .val (.ref b5), .val (.int (0 : Int32)), .val (.ref om), .val (.ref om)] []))
      refine Runs.st (fun t' k' => XS.aload X54_.here hx rfl (hb hby at_390) rfl rfl k') ?_
      obtain ⟨cq55_, kq55_, q55_a, q55_b, q55_c⟩ := isOf hZ e54_ (E1.ext old.2)
      obtain ⟨_, _, ⟨T55_, L55_, k55_, n55_⟩, -, X55_, ⟨Lc55_, hQ55_, l55_, y55_, z55_⟩, st55_⟩ := X54_.virtualBack hx (y := (⟨"com/example/standing_order/standingorder/api/InstanceForm", "engine", "()Ljava/lang/String;"⟩ : MethodName)) (z := (⟨"com/example/standing_order/standingorder/api/InstanceForm", "engine", "()Ljava/lang/String;"⟩ : MethodName)) hown (mvT hZ (hw _ (List.mem_of_getElem? (i := 81) rfl))) (mvT hZ (hw _ (List.mem_of_getElem? (i := 82) rfl))) (notFace_of_selects (args := #[]) (mvT hZ (hw _ (List.mem_of_getElem? (i := 84) rfl)))) (mvT hZ (hw _ (List.mem_of_getElem? (i := 84) rfl))) (mvT hZ (hw _ (List.mem_of_getElem? (i := 83) rfl))) (by decide) (backOf (W := 0) (rmEng l Z a0 hw [] om s1 T51_.heap n0 sz (Fs1.ext old.2)) hZ (hw _ (List.mem_of_getElem? (i := 85) rfl)) (hw _ (List.mem_of_getElem? (i := 64) rfl)) (by decide) (by decide)) q55_a q55_c (g := (mkF m 392 #[.val (.int i0), .val (.int i1), .val (.int i2), .val (.int i3), .val (.int (3 : Int32)), .val (.int ps), .val (.int ch), .val (.ref b1), .val (.ref b2), .val (.ref b3), .val (.ref b4), .val (.ref b5), .val (.int (0 : Int32)), .val (.ref om), .val (.ref om)] [(.ref om)])) rfl (by rw [hml]; rfl) (Steps.refl _) (argsL := []) (rest := []) (lenOf pd__28_29Ljava_2flang_2fString_3b rfl) rfl (by show 2 * 0 + _ ≤ _; exact Nat.le_of_eq rfl) (hb hby at_392) (fun _ _ => ⟨rfl, e54_, (by decide : 7 + 0 ≤ _), (by decide : 23 + 0 ≤ _)⟩)
      dsimp only [Pt.U, Pt.locs, Pt.cells, Pt.slots] at X55_ l55_ y55_ z55_ st55_ hQ55_
      subst l55_ y55_ z55_
      obtain ⟨rfl, N55_q, e55_⟩ := hQ55_
      have N55_ := Fr.app N54_ N55_q
      refine Runs.tr st55_ ?_
      replace X55_ := wider X55_ (c' := 7) (s' := 23) (by decide) (by decide)
      show Runs p.tables e below _ (T55_.setTop (mkF m 395 #[.val (.int i0), .val (.int i1), .val (.int i2), .val (.int i3), .val (.int (3 : Int32)), .val (.int ps), .val (.int ch), .val (.ref b1), .val (.ref b2), .val (.ref b3), .val (.ref b4), .val (.ref b5), .val (.int (0 : Int32)), .val (.ref om), .val (.ref om)] [(.ref s1)]))
      obtain ⟨_, _, ⟨T56_, L56_, k56_, n56_⟩, -, X56_, ⟨Lc56_, hQ56_, l56_, y56_, z56_⟩, st56_⟩ := Jvm.LawKit.callS X55_ hx (y := (⟨"com/example/standing_order/standingorder/api/InstanceForm", "ofEngine", "(Ljava/lang/String;)Lcom/example/standing_order/standingorder/api/InstanceForm;"⟩ : MethodName)) hown (mvT hZ (hw _ (List.mem_of_getElem? (i := 66) rfl))) (mvT hZ (hw _ (List.mem_of_getElem? (i := 67) rfl))) (mvT hZ (hw _ (List.mem_of_getElem? (i := 64) rfl))) (mvT hZ (hw _ (List.mem_of_getElem? (i := 68) rfl))) (by decide) (backOf (W := 0) (rmON l Z a0 hw [] s1 oe om s0 zc v1 v0 kv1 kv0 (7 : Int32) _ T51_.heap n0 sz (S0.ext old.2) (S1.ext old.2) (Fs0.ext old.2) hs10 (Sc.ext old.2) hzc (Es1.ext old.2) (Fc1.ext old.2) (Fv1.ext old.2) (Es0.ext old.2) (Fc0.ext old.2) (Fv0.ext old.2) (V1.ext old.2) (V0.ext old.2) (by decide)) hZ (hw _ (List.mem_of_getElem? (i := 68) rfl)) (hw _ (List.mem_of_getElem? (i := 64) rfl)) (by decide) (by decide)) (g := (mkF m 395 #[.val (.int i0), .val (.int i1), .val (.int i2), .val (.int i3), .val (.int (3 : Int32)), .val (.int ps), .val (.int ch), .val (.ref b1), .val (.ref b2), .val (.ref b3), .val (.ref b4), .val (.ref b5), .val (.int (0 : Int32)), .val (.ref om), .val (.ref om)] [(.ref s1)])) rfl (by rw [hml]; rfl) (argsL := [(.ref s1)]) (rest := []) (lenOf pd__28Ljava_2flang_2fString_3b_29Lcom_2fexample_2fstanding_order_2fstandingorder_2fapi_2fInstanceForm_3b rfl) rfl (by show 2 * 0 + _ ≤ _; exact Nat.le_of_eq rfl) (hb hby at_395) (fun _ _ => ⟨rfl, e55_, (by decide : 7 + 0 ≤ _), (by decide : 23 + 0 ≤ _)⟩)
      dsimp only [Pt.U, Pt.locs, Pt.cells, Pt.slots] at X56_ l56_ y56_ z56_ st56_ hQ56_
      subst l56_ y56_ z56_
      obtain ⟨rfl, N56_q, e56_⟩ := hQ56_
      have N56_ := Fr.app N55_ N56_q
      refine Runs.st (st56_) ?_
      replace X56_ := wider X56_ (c' := 7) (s' := 23) (by decide) (by decide)
      show Runs p.tables e below _ (T56_.setTop (mkF m 398 #[.val (.int i0), .val (.int i1), .val (.int i2), .val (.int i3), .val (.int (3 : Int32)), .val (.int ps), .val (.int ch), .val (.ref b1), .val (.ref b2), .val (.ref b3), .val (.ref b4), .val (.ref b5), .val (.int (0 : Int32)), .val (.ref om), .val (.ref om)] [(.ref om)]))
      refine Runs.st (fun t' k' => XS.aload X56_.here hx rfl (hb hby at_398) rfl rfl k') ?_
      refine Runs.st (fun t' k' => Jvm.RoadKit.acmp (g := (mkF m 400 #[.val (.int i0), .val (.int i1), .val (.int i2), .val (.int i3), .val (.int (3 : Int32)), .val (.int ps), .val (.int ch), .val (.ref b1), .val (.ref b2), .val (.ref b3), .val (.ref b4), .val (.ref b5), .val (.int (0 : Int32)), .val (.ref om), .val (.ref om)] [(.ref om), (.ref om)])) X56_ hx rfl rfl rfl (pc0 := 400) (pc' := 403) (same := true) rfl (hb hby at_400) rfl (decide_eq_true rfl) (by decide) (by decide) k') ?_
      show Runs p.tables e below _ (T56_.setTop (mkF m 403 #[.val (.int i0), .val (.int i1), .val (.int i2), .val (.int i3), .val (.int (3 : Int32)), .val (.int ps), .val (.int ch), .val (.ref b1), .val (.ref b2), .val (.ref b3), .val (.ref b4), .val (.ref b5), .val (.int (0 : Int32)), .val (.ref om), .val (.ref om)] []))
      refine Runs.st (fun t' k' => XS.iconst X56_.here hx rfl (hb hby at_403) k') ?_
      refine Runs.st (fun t' k' => XS.goto X56_.here hx rfl (pc0 := 404) (pc' := 408) rfl (hb hby at_404) (by decide) (by decide) k') ?_
      refine Runs.retW (s := s) (vm₁ := T51_.vm) X56_ hS (by rw [e56_]; exact hk) hlk (v := (some (.int (1 : Int32)))) (fun h => by rw [hret] at h; cases h) (by decide) (by decide) ?_ (fun fs hr => retN X56_ hx (t := .boolean) hret (by simp) (hb hby at_408) hr)
      try rw [e56_]
      exact ⟨rfl, N56_⟩
set_option maxRecDepth 65536 in
set_option maxHeartbeats 40000000 in
theorem comes_1 {Post : Tables → Env → Array Value → State → Outcome → State → Prop} (hpost : ∀ tb e args s v u, (limb_1_1.after args s (.returned v) u = true ∧ limb_1_2.after args s (.returned v) u = true ∧ True) → ReturnedEndW s (.returned v) u (Jvm.fieldLocs frame_1_writes args s ++ Jvm.arrayLocs frame_1_arrays args s ++ Jvm.staticLocs frame_1_statics s) 24 1152 → Post tb e args s (.returned v) u) :
    ArmFor flags0 classFile x code maxLocals ret World_1 tables_1 room_1 Calls_1 rest_1 Pre_1 Post := by
  intro l hfl _ _ p e ha hc hk s m args below hf hA hF happ hP
  obtain ⟨hcalls, hrest, hpre⟩ := hP
  obtain ⟨-, -, -, hnamed, -, -, -, hat⟩ := (Spec.applies_iff hf).mp happ
  obtain ⟨hg, hn⟩ := and_e (Cond.before_iff.mp (show (Jvm.Cond.and given_1 narrow_1).before args s = true from hpre))
  obtain ⟨gc, gr⟩ := and_e hg
  obtain ⟨gi0, gr⟩ := and_e gr
  obtain ⟨gi1, gr⟩ := and_e gr
  obtain ⟨gi2, gr⟩ := and_e gr
  have gi3 := gr
  obtain ⟨w0, w1, w2, w3, rfl⟩ : ∃ w0 w1 w2 w3 : Value, args = #[w0, w1, w2, w3] := by
    have hs : args.size = 4 := by simpa [Cond.value, given_1] using gc
    obtain ⟨L⟩ := args
    match L, hs with
    | [w0, w1, w2, w3], _ => exact ⟨w0, w1, w2, w3, rfl⟩
  have hw := fun d (hd : d ∈ tables_1) => atoms_spec (ws := Jvm.Cond.code x code maxLocals ret :: tables_1) hat d (List.mem_cons_of_mem _ hd)
  have hfit : Fit s := fun {y c} hc i hi => by
    obtain ⟨ha, rfl⟩ := Array.getElem?_eq_some_iff.mp hc
    have q := List.all_eq_true.mp ((Array.all_eq_true_iff_forall_mem.mp hF) _ (Array.getElem_mem ha)) i (List.mem_range.mpr hi)
    simpa [Array.getElem?_eq_getElem hi] using q
  obtain ⟨hsets, hown0⟩ := atoms_of _ (rest_1_c_eq ▸ (show rest_1_c.before _ s = true from hrest))
  have hr0 := Cond.before_iff.mp hown0
  obtain ⟨i0, ei0⟩ := is_v gi0
  obtain rfl : w0 = (.int i0) := Option.some.inj ei0
  obtain ⟨i1, ei1⟩ := is_v gi1
  obtain rfl : w1 = (.int i1) := Option.some.inj ei1
  obtain ⟨i2, ei2⟩ := is_v gi2
  obtain rfl : w2 = (.int i2) := Option.some.inj ei2
  obtain ⟨i3, ei3⟩ := is_v gi3
  obtain rfl : w3 = (.int i3) := Option.some.inj ei3
  obtain ⟨c0, hn⟩ := and_e hn
  obtain ⟨c1, hn⟩ := and_e hn
  obtain ⟨c2, hn⟩ := and_e hn
  obtain ⟨c3, hn⟩ := and_e hn
  obtain ⟨c4, hn⟩ := and_e hn
  obtain ⟨c5, hn⟩ := and_e hn
  obtain ⟨c6, hn⟩ := and_e hn
  obtain ⟨c7, hn⟩ := and_e hn
  obtain ⟨c8, hn⟩ := and_e hn
  obtain ⟨c9, hn⟩ := and_e hn
  obtain ⟨c10, hn⟩ := and_e hn
  obtain ⟨c11, hn⟩ := and_e hn
  obtain ⟨c12, hn⟩ := and_e hn
  obtain ⟨c13, hn⟩ := and_e hn
  obtain ⟨c14, hn⟩ := and_e hn
  obtain ⟨c15, hn⟩ := and_e hn
  obtain ⟨c16, hn⟩ := and_e hn
  obtain ⟨c17, hn⟩ := and_e hn
  obtain ⟨c18, hn⟩ := and_e hn
  obtain ⟨c19, hn⟩ := and_e hn
  obtain ⟨c20, hn⟩ := and_e hn
  obtain ⟨c21, hn⟩ := and_e hn
  have c22 := hn
  obtain ⟨oe, ev0, S0, E0⟩ := the_static c0 (hw _ (List.mem_of_getElem? (i := 64) rfl)) (hw _ (List.mem_of_getElem? (i := 65) rfl))
  obtain ⟨s0, es0, Fs0, Es0⟩ := the_ref ev0 c1
  have Fc0 := the_int es0 c2
  obtain ⟨v0, cl0, ea0, Fv0, Ar0⟩ := the_arr es0 c3
  obtain ⟨ln0, lz0⟩ := the_len ea0 Ar0 c4
  have V0 : Arv s s.heap v0 cl0.cls .byte (5 : Int32) [(.int (82 : Int32)), (.int (101 : Int32)), (.int (100 : Int32)), (.int (105 : Int32)), (.int (115 : Int32))] (.int (0 : Int32)) := Arv.start hfit Ar0 ln0 lz0 (by decide) (by decide) ⟨the_elem ea0 Ar0 c11, the_elem ea0 Ar0 c12, the_elem ea0 Ar0 c13, the_elem ea0 Ar0 c14, the_elem ea0 Ar0 c15, trivial⟩
  obtain ⟨om, ev1, S1, E1⟩ := the_static c5 (hw _ (List.mem_of_getElem? (i := 64) rfl)) (hw _ (List.mem_of_getElem? (i := 87) rfl))
  obtain ⟨s1, es1, Fs1, Es1⟩ := the_ref ev1 c6
  have Fc1 := the_int es1 c8
  obtain ⟨v1, cl1, ea1, Fv1, Ar1⟩ := the_arr es1 c9
  obtain ⟨ln1, lz1⟩ := the_len ea1 Ar1 c10
  have V1 : Arv s s.heap v1 cl1.cls .byte (7 : Int32) [(.int (77 : Int32)), (.int (111 : Int32)), (.int (110 : Int32)), (.int (103 : Int32)), (.int (111 : Int32)), (.int (68 : Int32)), (.int (66 : Int32))] (.int (0 : Int32)) := Arv.start hfit Ar1 ln1 lz1 (by decide) (by decide) ⟨the_elem ea1 Ar1 c16, the_elem ea1 Ar1 c17, the_elem ea1 Ar1 c18, the_elem ea1 Ar1 c19, the_elem ea1 Ar1 c20, the_elem ea1 Ar1 c21, the_elem ea1 Ar1 c22, trivial⟩
  have hs10 : s1 ≠ s0 := fun q => by
    have w1 := not_v c7
    rw [q] at es1
    have w2 := eq_iR es1 es0 rfl rfl
    rw [w1] at w2; cases w2
  obtain ⟨zc, ezc⟩ := is_v (Cond.before_iff.mp (hsets _ (List.mem_of_getElem? (i := 1) rfl)))
  have Sc := Sta.start ezc (Or.inl (hsets _ (List.mem_of_getElem? (i := 0) rfl)))
  have hzc : ¬ zc = 0 := fun q => by
    have u := not_v (Cond.before_iff.mp (hsets _ (List.mem_of_getElem? (i := 2) rfl)))
    rw [q] at ezc
    have w := eq_i ezc (Term.int_eval (0 : Int32)) rfl
    rw [u] at w; cases w
  obtain ⟨fm, efm, hfm⟩ := isR_v (Cond.before_iff.mp (hsets _ (List.mem_of_getElem? (i := 8) rfl)))
  have Sf := Sta.start efm (Or.inl (hsets _ (List.mem_of_getElem? (i := 7) rfl)))
  have hEL : EW s _ [("java/lang/String", 7)] := EW.cons (hw _ (List.mem_of_getElem? (i := 101) rfl)) (by decide) EW.nil
  have hcw : Jvm.Lit.compactW.before #[.int i0, .int i1, .int i2, .int i3] s = true := (hsets _ (List.mem_of_getElem? (i := 2) rfl))
  have hC0 : CHv s [("java/lang/String", 7)] s.vm s.heap := CHv.start hEL (fun q hq => hcalls.1 q hq) hcw (hw _ (List.mem_of_getElem? (i := 20) rfl)) (hw _ (List.mem_of_getElem? (i := 3) rfl))
  obtain ⟨n, o, h1, h2, h3, _, L, rfl, ⟨rfl, N⟩, hq⟩ := rm0 l s _ hw tables_1 i0 i1 i2 i3 oe om s0 s1 v0 v1 _ _ zc fm s.heap s.heap.size (Nat.le_refl _) (Old.start s) Sc hzc Sf hfm hs10 S0 E0 Fs0 Es0 Fc0 Fv0 V0 S1 E1 Fs1 Es1 Fc1 Fv1 V1 rfl hEL hC0 p e ha hc hk s m _ below hf ((Spec.applies_iff_loose hf).mp happ).1 ⟨rfl, rfl, rfl⟩ trivial
  refine ⟨n, _, h1, h2, h3, hpost _ _ _ _ _ _ ⟨Cond.after_iff.mpr rfl, Cond.after_iff.mpr (eq_i res_at (Term.int_eval (1)) rfl), trivial⟩ ⟨hq.1, hq.2.1, hq.2.2.1, (hq.2.2.2.sift fun y hy => Or.inr (N y hy)).mono (by decide) (by decide)⟩⟩
theorem main_1_1 : Claimed_1_1 := comes_1 fun _ _ _ _ _ _ h hF => ⟨h.1, hF⟩
theorem main_1_2 : Claimed_1_2 := comes_1 fun _ _ _ _ _ _ h hF => ⟨h.2.1, hF⟩
end Jvm.Pilot.@@N@@
namespace Jvm.Pilot.@@N@@
open Jvm Jvm.ClassFile Sem Op Lib Jvm.Free Jvm.Stand Jvm.Pilot.@@N@@.Jvm.D
/-! MADE BY PROGRAM (witnessworld.py) out of the Statement's table words and the real class files: 21 classes; the members and pool entries that the words name. The judged class is class 1, her method 1. -/
namespace start1
open Jvm.ClassFile
def u (s : String) : CpInfo := .utf8 (stringToUtf16 s)
/-- a pool by its gaps: so many unusable entries, then the entry; so many at the end -/
def gap : Nat → List CpInfo → List CpInfo
  | 0, r => r
  | n + 1, r => .unusable :: gap n r
def poolList (es : List (Nat × CpInfo)) (last : Nat) : List CpInfo := es.foldr (fun e r => gap e.1 (e.2 :: r)) (gap last [])
def pool (es : List (Nat × CpInfo)) (last : Nat) : Array CpInfo := ⟨poolList es last⟩
def fileOf (pool : Array CpInfo) (this : Nat) (attrs : Array Attribute := #[]) (ms : Array MethodInfo := #[]) (fl : Nat := 33) (sup : Nat := 0) (ifs : Array Nat := #[]) (fds : Array FieldInfo := #[]) : ClassFile where
  minorVersion := 0
  majorVersion := 65
  constantPool := pool
  accessFlags := fl
  thisClass := this
  superClass := sup
  interfaces := ifs
  fields := fds
  methods := ms
  attributes := attrs
def plain (name : String) (sup : Option ClassId) : Class where
  name := name
  kind := .ordinary
  loader := none
  accessFlags := 33
  super := sup
  interfaces := #[]
  cf := none
  fields := #[]
  methods := #[]
  instanceTypes := #[]
  staticTypes := #[]
  resolved := #[]
  callSites := []
  init := .initialized
  statics := none
  mirror := none

def pool0 : Array CpInfo := pool [(5, u "<init>"), (0, u "()V"), (1, .class_ 10), (1, u "java/lang/Object")] 113

def k0c0 : Code := { maxStack := 0, maxLocals := 1, code := object_method_1_code, exceptionTable := #[], attributes := #[] }
def k0m0 : Method := { name := "<init>", desc := "()V", sig := { parameters := [], returnType := none }, accessFlags := 1, code := some k0c0 }
/-- java/lang/Object -/
def k0 : Class := { plain "java/lang/Object" none with
  accessFlags := 33
  interfaces := #[]
  cf := some (fileOf pool0 8 #[] #[{ accessFlags := 1, nameIndex := 5, descriptorIndex := 6, attributes := #[] }] 33 0 #[] #[])
  fields := #[]
  methods := #[k0m0]
  instanceTypes := #[]
  staticTypes := #[]
  resolved := Array.replicate 124 none
  statics := none }

def pool1 : Array CpInfo := pool [(2, .class_ 4), (1, u "java/lang/Object"), (0, u "<init>"), (0, u "()V"), (0, .integer 2147483647), (0, .class_ 9), (0, u "java/lang/String"), (0, .methodref 8 11), (0, .nameAndType 5 12), (0, u "([C)V"), (0, .methodref 8 14), (0, .nameAndType 15 16), (0, u "valueOf"), (0, u "(C)Ljava/lang/String;"), (0, .methodref 8 18), (0, .nameAndType 19 20), (0, u "length"), (0, u "()I"), (0, .methodref 8 22), (0, .nameAndType 23 24), (0, u "charAt"), (0, u "(I)C"), (0, .fieldref 26 27), (0, .class_ 28), (0, .nameAndType 29 30), (0, u "com/example/standing_order/standingorder/api/InstanceForm"), (0, u "REDIS"), (0, u "Lcom/example/standing_order/standingorder/api/InstanceForm;"), (0, .fieldref 26 32), (0, .nameAndType 33 30), (0, u "MONGODB"), (0, .methodref 26 35), (0, .nameAndType 36 37), (0, u "ofEngine"), (0, u "(Ljava/lang/String;)Lcom/example/standing_order/standingorder/api/InstanceForm;"), (0, .methodref 26 39), (0, .nameAndType 40 41), (0, u "engine"), (0, u "()Ljava/lang/String;"), (0, .class_ 43), (0, u "com/example/standing_order/standingorder/api/InstanceFormOfEnginePinLaw"), (2, u "law"), (0, u "(IIII)Z")] 5

def k1m0 : Method := { name := "<init>", desc := "()V", sig := { parameters := [], returnType := none }, accessFlags := 1, code := none }
def k1c1 : Code := { maxStack := 4, maxLocals := 15, code := code, exceptionTable := #[], attributes := #[] }
def k1m1 : Method := { name := "law", desc := "(IIII)Z", sig := { parameters := [.int, .int, .int, .int], returnType := some .boolean }, accessFlags := 9, code := some k1c1 }
/-- com/example/standing_order/standingorder/api/InstanceFormOfEnginePinLaw -/
def k1 : Class := { plain "com/example/standing_order/standingorder/api/InstanceFormOfEnginePinLaw" (some 0) with
  accessFlags := 49
  interfaces := #[]
  cf := some (fileOf pool1 42 #[] #[{ accessFlags := 1, nameIndex := 5, descriptorIndex := 6, attributes := #[] }, { accessFlags := 9, nameIndex := 46, descriptorIndex := 47, attributes := #[] }] 49 2 #[] #[])
  fields := #[]
  methods := #[k1m0, k1m1]
  instanceTypes := #[]
  staticTypes := #[]
  resolved := Array.replicate 53 none
  statics := none }

def pool2 : Array CpInfo := pool [(1, .class_ 2), (0, u "java/io/Serializable"), (0, .class_ 4), (0, u "java/lang/Object")] 2

/-- java/io/Serializable -/
def k2 : Class := { plain "java/io/Serializable" (some 0) with
  accessFlags := 1537
  interfaces := #[]
  cf := some (fileOf pool2 1 #[] #[] 1537 3 #[] #[])
  fields := #[]
  methods := #[]
  instanceTypes := #[]
  staticTypes := #[]
  resolved := Array.replicate 7 none
  statics := none }

def pool3 : Array CpInfo := pool [(1, .class_ 2), (0, u "java/lang/Comparable"), (0, .class_ 4), (0, u "java/lang/Object")] 7

/-- java/lang/Comparable -/
def k3 : Class := { plain "java/lang/Comparable" (some 0) with
  accessFlags := 1537
  interfaces := #[]
  cf := some (fileOf pool3 1 #[] #[] 1537 3 #[] #[])
  fields := #[]
  methods := #[]
  instanceTypes := #[]
  staticTypes := #[]
  resolved := Array.replicate 12 none
  statics := none }

def pool4 : Array CpInfo := pool [(2, .class_ 4), (1, u "java/lang/CharSequence"), (42, .class_ 48), (0, u "java/lang/CharSequence$1CodePointIterator"), (10, .class_ 60), (0, u "java/lang/CharSequence$1CharIterator"), (5, .class_ 67), (0, u "java/lang/Object")] 63

/-- java/lang/CharSequence -/
def k4 : Class := { plain "java/lang/CharSequence" (some 0) with
  accessFlags := 1537
  interfaces := #[]
  cf := some (fileOf pool4 2 #[.nestMembers #[47, 59]] #[] 1537 66 #[] #[])
  fields := #[]
  methods := #[]
  instanceTypes := #[]
  staticTypes := #[]
  resolved := Array.replicate 131 none
  statics := none }

def pool5 : Array CpInfo := pool [(1, .class_ 2), (0, u "java/lang/constant/Constable"), (0, .class_ 4), (0, u "java/lang/Object")] 6

/-- java/lang/constant/Constable -/
def k5 : Class := { plain "java/lang/constant/Constable" (some 0) with
  accessFlags := 1537
  interfaces := #[]
  cf := some (fileOf pool5 1 #[] #[] 1537 3 #[] #[])
  fields := #[]
  methods := #[]
  instanceTypes := #[]
  staticTypes := #[]
  resolved := Array.replicate 11 none
  statics := none }

def pool6 : Array CpInfo := pool [(1, .class_ 2), (0, u "java/lang/constant/ConstantDesc"), (0, .class_ 4), (0, u "java/lang/Object")] 32

/-- java/lang/constant/ConstantDesc -/
def k6 : Class := { plain "java/lang/constant/ConstantDesc" (some 0) with
  accessFlags := 1537
  interfaces := #[]
  cf := some (fileOf pool6 1 #[] #[] 1537 3 #[] #[])
  fields := #[]
  methods := #[]
  instanceTypes := #[]
  staticTypes := #[]
  resolved := Array.replicate 37 none
  statics := none }

def pool7 : Array CpInfo := pool [(1, .methodref 2 3), (0, .class_ 4), (0, .nameAndType 5 6), (0, u "java/lang/Object"), (0, u "<init>"), (0, u "()V"), (0, .string 8), (0, u ""), (0, .fieldref 10 11), (0, .class_ 12), (0, .nameAndType 13 14), (0, u "java/lang/String"), (0, u "value"), (0, u "[B"), (0, .fieldref 10 16), (0, .nameAndType 17 18), (0, u "coder"), (0, u "B"), (2, u "hash"), (0, u "I"), (2, u "hashIsZero"), (0, u "Z"), (0, .methodref 10 28), (0, .nameAndType 5 29), (0, u "([CIILjava/lang/Void;)V"), (8, .fieldref 10 39), (0, .nameAndType 40 26), (0, u "COMPACT_STRINGS"), (1, .class_ 44), (1, u "java/lang/StringUTF16"), (0, u "compress"), (1, .methodref 42 48), (0, .nameAndType 49 50), (0, u "coderFromArrayLen"), (0, u "([BI)B"), (2, u "toBytes"), (53, .class_ 109), (1, u "java/lang/StringLatin1"), (32, u "()Z"), (34, .methodref 42 178), (0, .nameAndType 45 179), (0, u "([CII)[B"), (29, .methodref 10 210), (0, .nameAndType 5 211), (0, u "([BB)V"), (122, u "()I"), (0, .methodref 10 336), (0, .nameAndType 17 337), (0, u "()B"), (25, u "([BI)C"), (5, u "(C)Z"), (21, u "(II)V"), (35, u "(I)C"), (64, .methodref 10 493), (0, .nameAndType 494 142), (0, u "isLatin1"), (0, .methodref 107 496), (0, .nameAndType 497 363), (0, u "charAt"), (3, u "checkIndex"), (5, u "length"), (33, .methodref 107 542), (0, .nameAndType 543 544), (0, u "equals"), (0, u "([B[B)Z"), (28, u "(Ljava/lang/Object;)Z"), (1, .class_ 576), (0, u "java/lang/CharSequence"), (22, u "CASE_INSENSITIVE_ORDER"), (0, u "Ljava/util/Comparator;"), (181, u "valueOf"), (0, u "(C)Ljava/lang/String;"), (226, u "([C)V"), (4, .methodref 107 1016), (0, .nameAndType 1017 369), (0, u "canEncode"), (0, .methodref 107 1019), (0, .nameAndType 53 1020), (0, u "(C)[B"), (32, .fieldref 1054 1055), (0, .class_ 1056), (0, .nameAndType 1057 1058), (0, u "jdk/internal/util/Preconditions"), (0, u "SIOOBE_FORMATTER"), (0, u "Ljava/util/function/BiFunction;"), (0, .methodref 1054 1060), (0, .nameAndType 501 1061), (0, u "(IILjava/util/function/BiFunction;)I"), (39, u "serialPersistentFields"), (0, u "[Ljava/io/ObjectStreamField;"), (0, .class_ 1104), (0, u "java/lang/String$CaseInsensitiveComparator"), (1, .class_ 1107), (0, u "java/io/Serializable"), (0, .class_ 1109), (0, u "java/lang/Comparable"), (0, .class_ 1111), (0, u "java/lang/constant/Constable"), (0, .class_ 1113), (0, u "java/lang/constant/ConstantDesc"), (2, u "serialVersionUID"), (0, u "J"), (3, u "REPL"), (0, u "C"), (2, u "LATIN1"), (1, u "UTF16")] 323

def k7m0 : Method := { name := "<init>", desc := "()V", sig := { parameters := [], returnType := none }, accessFlags := 1, code := none }
def k7c1 : Code := { maxStack := 5, maxLocals := 2, code := jdk_42_method_3_code, exceptionTable := #[], attributes := #[] }
def k7m1 : Method := { name := "<init>", desc := "([C)V", sig := { parameters := [(.array .char)], returnType := none }, accessFlags := 1, code := some k7c1 }
def k7c2 : Code := { maxStack := 2, maxLocals := 1, code := jdk_42_method_54_code, exceptionTable := #[], attributes := #[] }
def k7m2 : Method := { name := "length", desc := "()I", sig := { parameters := [], returnType := some .int }, accessFlags := 1, code := some k7c2 }
def k7c3 : Code := { maxStack := 2, maxLocals := 2, code := jdk_42_method_56_code, exceptionTable := #[], attributes := #[] }
def k7m3 : Method := { name := "charAt", desc := "(I)C", sig := { parameters := [.int], returnType := some .char }, accessFlags := 1, code := some k7c3 }
def k7c4 : Code := { maxStack := 2, maxLocals := 3, code := jdk_42_method_66_code, exceptionTable := #[], attributes := #[] }
def k7m4 : Method := { name := "equals", desc := "(Ljava/lang/Object;)Z", sig := { parameters := [(.object "java/lang/Object")], returnType := some .boolean }, accessFlags := 1, code := some k7c4 }
def k7c5 : Code := { maxStack := 4, maxLocals := 1, code := jdk_42_method_139_code, exceptionTable := #[], attributes := #[] }
def k7m5 : Method := { name := "valueOf", desc := "(C)Ljava/lang/String;", sig := { parameters := [.char], returnType := some (.object "java/lang/String") }, accessFlags := 9, code := some k7c5 }
def k7c6 : Code := { maxStack := 4, maxLocals := 6, code := jdk_42_method_149_code, exceptionTable := #[], attributes := #[] }
def k7m6 : Method := { name := "<init>", desc := "([CIILjava/lang/Void;)V", sig := { parameters := [(.array .char), .int, .int, (.object "java/lang/Void")], returnType := none }, accessFlags := 2, code := some k7c6 }
def k7c7 : Code := { maxStack := 2, maxLocals := 3, code := jdk_42_method_151_code, exceptionTable := #[], attributes := #[] }
def k7m7 : Method := { name := "<init>", desc := "([BB)V", sig := { parameters := [(.array .byte), .byte], returnType := none }, accessFlags := 0, code := some k7c7 }
def k7c8 : Code := { maxStack := 1, maxLocals := 1, code := jdk_42_method_152_code, exceptionTable := #[], attributes := #[] }
def k7m8 : Method := { name := "coder", desc := "()B", sig := { parameters := [], returnType := some .byte }, accessFlags := 0, code := some k7c8 }
def k7c9 : Code := { maxStack := 1, maxLocals := 1, code := jdk_42_method_154_code, exceptionTable := #[], attributes := #[] }
def k7m9 : Method := { name := "isLatin1", desc := "()Z", sig := { parameters := [], returnType := some .boolean }, accessFlags := 0, code := some k7c9 }
def k7c10 : Code := { maxStack := 3, maxLocals := 2, code := jdk_42_method_155_code, exceptionTable := #[], attributes := #[] }
def k7m10 : Method := { name := "checkIndex", desc := "(II)V", sig := { parameters := [.int, .int], returnType := none }, accessFlags := 8, code := some k7c10 }
/-- java/lang/String -/
def k7 : Class := { plain "java/lang/String" (some 0) with
  accessFlags := 49
  interfaces := #[2, 3, 4, 5, 6]
  cf := some (fileOf pool7 10 #[.nestMembers #[1103]] #[{ accessFlags := 1, nameIndex := 5, descriptorIndex := 6, attributes := #[] }, { accessFlags := 1, nameIndex := 5, descriptorIndex := 1010, attributes := #[] }, { accessFlags := 1, nameIndex := 507, descriptorIndex := 334, attributes := #[] }, { accessFlags := 1, nameIndex := 497, descriptorIndex := 427, attributes := #[] }, { accessFlags := 1, nameIndex := 543, descriptorIndex := 573, attributes := #[] }, { accessFlags := 9, nameIndex := 782, descriptorIndex := 783, attributes := #[] }, { accessFlags := 2, nameIndex := 5, descriptorIndex := 29, attributes := #[] }, { accessFlags := 0, nameIndex := 5, descriptorIndex := 211, attributes := #[] }, { accessFlags := 0, nameIndex := 17, descriptorIndex := 337, attributes := #[] }, { accessFlags := 0, nameIndex := 494, descriptorIndex := 142, attributes := #[] }, { accessFlags := 8, nameIndex := 501, descriptorIndex := 391, attributes := #[] }] 49 2 #[1106, 1108, 575, 1110, 1112] #[{ accessFlags := 18, nameIndex := 13, descriptorIndex := 14, attributes := #[] }, { accessFlags := 18, nameIndex := 17, descriptorIndex := 18, attributes := #[] }, { accessFlags := 2, nameIndex := 21, descriptorIndex := 22, attributes := #[] }, { accessFlags := 2, nameIndex := 25, descriptorIndex := 26, attributes := #[] }, { accessFlags := 26, nameIndex := 1116, descriptorIndex := 1117, attributes := #[] }, { accessFlags := 24, nameIndex := 40, descriptorIndex := 26, attributes := #[] }, { accessFlags := 26, nameIndex := 1101, descriptorIndex := 1102, attributes := #[] }, { accessFlags := 26, nameIndex := 1121, descriptorIndex := 1122, attributes := #[] }, { accessFlags := 25, nameIndex := 599, descriptorIndex := 600, attributes := #[] }, { accessFlags := 24, nameIndex := 1125, descriptorIndex := 18, attributes := #[] }, { accessFlags := 24, nameIndex := 1127, descriptorIndex := 18, attributes := #[] }])
  fields := #[{ name := "value", type := (.array .byte), accessFlags := 18, slot := 0, constantValue := 0 }, { name := "coder", type := .byte, accessFlags := 18, slot := 1, constantValue := 0 }, { name := "hash", type := .int, accessFlags := 2, slot := 2, constantValue := 0 }, { name := "hashIsZero", type := .boolean, accessFlags := 2, slot := 3, constantValue := 0 }, { name := "serialVersionUID", type := .long, accessFlags := 26, slot := 0, constantValue := 0 }, { name := "COMPACT_STRINGS", type := .boolean, accessFlags := 24, slot := 1, constantValue := 0 }, { name := "serialPersistentFields", type := (.array (.object "java/io/ObjectStreamField")), accessFlags := 26, slot := 2, constantValue := 0 }, { name := "REPL", type := .char, accessFlags := 26, slot := 3, constantValue := 0 }, { name := "CASE_INSENSITIVE_ORDER", type := (.object "java/util/Comparator"), accessFlags := 25, slot := 4, constantValue := 0 }, { name := "LATIN1", type := .byte, accessFlags := 24, slot := 5, constantValue := 0 }, { name := "UTF16", type := .byte, accessFlags := 24, slot := 6, constantValue := 0 }]
  methods := #[k7m0, k7m1, k7m2, k7m3, k7m4, k7m5, k7m6, k7m7, k7m8, k7m9, k7m10]
  instanceTypes := #[(.array .byte), .byte, .int, .boolean]
  staticTypes := #[.long, .boolean, (.array (.object "java/io/ObjectStreamField")), .char, (.object "java/util/Comparator"), .byte, .byte]
  resolved := Array.replicate 1451 none
  statics := some 0 }

def pool8 : Array CpInfo := pool [(6, .class_ 8), (1, u "java/lang/Object"), (0, u "<init>"), (0, u "()V"), (1, .class_ 14), (1, u "java/lang/StringUTF16"), (31, u "$assertionsDisabled"), (0, u "Z"), (13, u "HI_BYTE_SHIFT"), (0, u "I"), (2, u "LO_BYTE_SHIFT"), (49, .methodref 12 116), (0, .nameAndType 117 118), (0, u "compress"), (0, u "([CI[BII)I"), (3, u "([CII)[B"), (138, u "coderFromArrayLen"), (0, u "([BI)B"), (106, .class_ 371), (1, u "java/lang/StringUTF16$LinesSpliterator"), (58, u "MAX_LENGTH"), (196, .class_ 628), (0, u "java/lang/StringUTF16$CodePointsSpliterator"), (0, .class_ 630), (0, u "java/lang/StringUTF16$CharsSpliterator")] 4

def k8m0 : Method := { name := "<init>", desc := "()V", sig := { parameters := [], returnType := none }, accessFlags := 0, code := none }
def k8c1 : Code := { maxStack := 2, maxLocals := 2, code := jdk_52_method_15_code, exceptionTable := #[], attributes := #[] }
def k8m1 : Method := { name := "coderFromArrayLen", desc := "([BI)B", sig := { parameters := [(.array .byte), .int], returnType := some .byte }, accessFlags := 8, code := some k8c1 }
def k8c2 : Code := { maxStack := 5, maxLocals := 6, code := jdk_52_method_16_code, exceptionTable := #[], attributes := #[] }
def k8m2 : Method := { name := "compress", desc := "([CII)[B", sig := { parameters := [(.array .char), .int, .int], returnType := some (.array .byte) }, accessFlags := 9, code := some k8c2 }
def k8c3 : Code := { maxStack := 3, maxLocals := 7, code := jdk_52_method_21_code, exceptionTable := #[], attributes := #[] }
def k8m3 : Method := { name := "compress", desc := "([CI[BII)I", sig := { parameters := [(.array .char), .int, (.array .byte), .int, .int], returnType := some .int }, accessFlags := 9, code := some k8c3 }
/-- java/lang/StringUTF16 -/
def k8 : Class := { plain "java/lang/StringUTF16" (some 0) with
  accessFlags := 48
  interfaces := #[]
  cf := some (fileOf pool8 12 #[.nestMembers #[627, 629, 369]] #[{ accessFlags := 0, nameIndex := 9, descriptorIndex := 10, attributes := #[] }, { accessFlags := 8, nameIndex := 261, descriptorIndex := 262, attributes := #[] }, { accessFlags := 9, nameIndex := 117, descriptorIndex := 122, attributes := #[] }, { accessFlags := 9, nameIndex := 117, descriptorIndex := 118, attributes := #[] }] 48 6 #[] #[{ accessFlags := 26, nameIndex := 61, descriptorIndex := 62, attributes := #[] }, { accessFlags := 26, nameIndex := 65, descriptorIndex := 62, attributes := #[] }, { accessFlags := 24, nameIndex := 430, descriptorIndex := 62, attributes := #[] }, { accessFlags := 4120, nameIndex := 46, descriptorIndex := 47, attributes := #[] }])
  fields := #[{ name := "HI_BYTE_SHIFT", type := .int, accessFlags := 26, slot := 0, constantValue := 0 }, { name := "LO_BYTE_SHIFT", type := .int, accessFlags := 26, slot := 1, constantValue := 0 }, { name := "MAX_LENGTH", type := .int, accessFlags := 24, slot := 2, constantValue := 0 }, { name := "$assertionsDisabled", type := .boolean, accessFlags := 4120, slot := 3, constantValue := 0 }]
  methods := #[k8m0, k8m1, k8m2, k8m3]
  instanceTypes := #[]
  staticTypes := #[.int, .int, .int, .boolean]
  resolved := Array.replicate 635 none
  statics := none }

def pool9 : Array CpInfo := pool [(1, .class_ 2), (0, u "java/lang/String"), (1, .class_ 6), (1, u "java/lang/Object"), (0, u "<init>"), (0, u "()V"), (0, .methodref 1 10), (0, .nameAndType 11 12), (0, u "checkIndex"), (0, u "(II)V"), (1, .class_ 16), (1, u "java/lang/StringLatin1"), (36, u "([BI)C"), (36, u "canEncode"), (14, u "(C)Z"), (15, u "$assertionsDisabled"), (0, u "Z"), (98, .class_ 223), (1, u "java/lang/StringLatin1$LinesSpliterator"), (28, u "charAt"), (28, u "equals"), (0, u "([B[B)Z"), (97, u "toBytes"), (1, u "(C)[B"), (7, .class_ 391), (0, u "java/lang/StringLatin1$CharsSpliterator")] 3

def k9m0 : Method := { name := "<init>", desc := "()V", sig := { parameters := [], returnType := none }, accessFlags := 0, code := none }
def k9c1 : Code := { maxStack := 2, maxLocals := 2, code := jdk_43_method_2_code, exceptionTable := #[], attributes := #[] }
def k9m1 : Method := { name := "charAt", desc := "([BI)C", sig := { parameters := [(.array .byte), .int], returnType := some .char }, accessFlags := 9, code := some k9c1 }
def k9c2 : Code := { maxStack := 2, maxLocals := 1, code := jdk_43_method_3_code, exceptionTable := #[], attributes := #[] }
def k9m2 : Method := { name := "canEncode", desc := "(C)Z", sig := { parameters := [.char], returnType := some .boolean }, accessFlags := 9, code := some k9c2 }
def k9c3 : Code := { maxStack := 3, maxLocals := 3, code := jdk_43_method_13_code, exceptionTable := #[], attributes := #[] }
def k9m3 : Method := { name := "equals", desc := "([B[B)Z", sig := { parameters := [(.array .byte), (.array .byte)], returnType := some .boolean }, accessFlags := 9, code := some k9c3 }
def k9c4 : Code := { maxStack := 4, maxLocals := 1, code := jdk_43_method_46_code, exceptionTable := #[], attributes := #[] }
def k9m4 : Method := { name := "toBytes", desc := "(C)[B", sig := { parameters := [.char], returnType := some (.array .byte) }, accessFlags := 9, code := some k9c4 }
/-- java/lang/StringLatin1 -/
def k9 : Class := { plain "java/lang/StringLatin1" (some 0) with
  accessFlags := 48
  interfaces := #[]
  cf := some (fileOf pool9 14 #[.nestMembers #[390, 221]] #[{ accessFlags := 0, nameIndex := 7, descriptorIndex := 8, attributes := #[] }, { accessFlags := 9, nameIndex := 252, descriptorIndex := 53, attributes := #[] }, { accessFlags := 9, nameIndex := 90, descriptorIndex := 105, attributes := #[] }, { accessFlags := 9, nameIndex := 281, descriptorIndex := 282, attributes := #[] }, { accessFlags := 9, nameIndex := 380, descriptorIndex := 382, attributes := #[] }] 48 4 #[] #[{ accessFlags := 4120, nameIndex := 121, descriptorIndex := 122, attributes := #[] }])
  fields := #[{ name := "$assertionsDisabled", type := .boolean, accessFlags := 4120, slot := 0, constantValue := 0 }]
  methods := #[k9m0, k9m1, k9m2, k9m3, k9m4]
  instanceTypes := #[]
  staticTypes := #[.boolean]
  resolved := Array.replicate 395 none
  statics := none }

def pool10 : Array CpInfo := pool [(2, .class_ 4), (1, u "java/lang/Object"), (0, u "<init>"), (0, u "()V"), (17, .class_ 26), (1, u "jdk/internal/util/Preconditions"), (6, u "checkIndex"), (21, .class_ 56), (0, u "jdk/internal/util/Preconditions$4"), (57, .class_ 115), (0, u "jdk/internal/util/Preconditions$1"), (7, u "SIOOBE_FORMATTER"), (0, u "Ljava/util/function/BiFunction;"), (0, .class_ 126), (0, u "jdk/internal/util/Preconditions$2"), (3, u "AIOOBE_FORMATTER"), (0, .class_ 132), (0, u "jdk/internal/util/Preconditions$3"), (3, u "IOOBE_FORMATTER"), (41, u "(IILjava/util/function/BiFunction;)I")] 15

def k10m0 : Method := { name := "<init>", desc := "()V", sig := { parameters := [], returnType := none }, accessFlags := 1, code := none }
def k10c1 : Code := { maxStack := 3, maxLocals := 3, code := jdk_41_method_11_code, exceptionTable := #[], attributes := #[] }
def k10m1 : Method := { name := "checkIndex", desc := "(IILjava/util/function/BiFunction;)I", sig := { parameters := [.int, .int, (.object "java/util/function/BiFunction")], returnType := some .int }, accessFlags := 9, code := some k10c1 }
/-- jdk/internal/util/Preconditions -/
def k10 : Class := { plain "jdk/internal/util/Preconditions" (some 0) with
  accessFlags := 33
  interfaces := #[]
  cf := some (fileOf pool10 24 #[.nestMembers #[55, 131, 125, 114]] #[{ accessFlags := 1, nameIndex := 5, descriptorIndex := 6, attributes := #[] }, { accessFlags := 9, nameIndex := 33, descriptorIndex := 178, attributes := #[] }] 33 2 #[] #[{ accessFlags := 25, nameIndex := 123, descriptorIndex := 124, attributes := #[] }, { accessFlags := 25, nameIndex := 130, descriptorIndex := 124, attributes := #[] }, { accessFlags := 25, nameIndex := 136, descriptorIndex := 124, attributes := #[] }])
  fields := #[{ name := "SIOOBE_FORMATTER", type := (.object "java/util/function/BiFunction"), accessFlags := 25, slot := 0, constantValue := 0 }, { name := "AIOOBE_FORMATTER", type := (.object "java/util/function/BiFunction"), accessFlags := 25, slot := 1, constantValue := 0 }, { name := "IOOBE_FORMATTER", type := (.object "java/util/function/BiFunction"), accessFlags := 25, slot := 2, constantValue := 0 }]
  methods := #[k10m0, k10m1]
  instanceTypes := #[]
  staticTypes := #[(.object "java/util/function/BiFunction"), (.object "java/util/function/BiFunction"), (.object "java/util/function/BiFunction")]
  resolved := Array.replicate 194 none
  statics := some 1 }

def pool11 : Array CpInfo := pool [(2, .class_ 4), (1, u "java/lang/Enum"), (0, u "name"), (0, u "Ljava/lang/String;"), (2, u "ordinal"), (0, u "I"), (1, .class_ 14), (1, u "java/lang/Object"), (4, u "hash"), (86, .class_ 108), (1, u "java/lang/Enum$EnumDesc"), (2, .class_ 112), (0, u "java/lang/constant/Constable"), (0, .class_ 114), (0, u "java/lang/Comparable"), (0, .class_ 116), (0, u "java/io/Serializable")] 87

/-- java/lang/Enum -/
def k11 : Class := { plain "java/lang/Enum" (some 0) with
  accessFlags := 1057
  interfaces := #[5, 3, 2]
  cf := some (fileOf pool11 2 #[.nestMembers #[106]] #[] 1057 12 #[111, 113, 115] #[{ accessFlags := 18, nameIndex := 5, descriptorIndex := 6, attributes := #[] }, { accessFlags := 18, nameIndex := 9, descriptorIndex := 10, attributes := #[] }, { accessFlags := 2, nameIndex := 19, descriptorIndex := 10, attributes := #[] }])
  fields := #[{ name := "name", type := (.object "java/lang/String"), accessFlags := 18, slot := 0, constantValue := 0 }, { name := "ordinal", type := .int, accessFlags := 18, slot := 1, constantValue := 0 }, { name := "hash", type := .int, accessFlags := 2, slot := 2, constantValue := 0 }]
  methods := #[]
  instanceTypes := #[(.object "java/lang/String"), .int, .int]
  staticTypes := #[]
  resolved := Array.replicate 204 none
  statics := none }

def pool12 : Array CpInfo := pool [(1, .class_ 2), (0, u "com/example/standing_order/standingorder/api/InstanceForm"), (0, .fieldref 1 4), (0, .nameAndType 5 6), (0, u "MONGODB"), (0, u "Lcom/example/standing_order/standingorder/api/InstanceForm;"), (0, .fieldref 1 8), (0, .nameAndType 9 6), (0, u "REDIS"), (2, u "$VALUES"), (0, u "[Lcom/example/standing_order/standingorder/api/InstanceForm;"), (6, .class_ 22), (1, u "java/lang/Enum"), (6, .fieldref 1 30), (0, .nameAndType 31 32), (0, u "engine"), (0, u "Ljava/lang/String;"), (2, u "idKey"), (2, u "classKey"), (2, u "sizeKey"), (2, u "typeKey"), (2, u "statusKey"), (0, .methodref 49 50), (0, .class_ 51), (0, .nameAndType 52 53), (0, u "java/lang/String"), (0, u "equals"), (0, u "(Ljava/lang/Object;)Z"), (4, u "()Ljava/lang/String;"), (2, u "ofEngine"), (0, u "(Ljava/lang/String;)Lcom/example/standing_order/standingorder/api/InstanceForm;")] 70

def k12c0 : Code := { maxStack := 2, maxLocals := 1, code := prog_4_method_4_code, exceptionTable := #[], attributes := #[] }
def k12m0 : Method := { name := "ofEngine", desc := "(Ljava/lang/String;)Lcom/example/standing_order/standingorder/api/InstanceForm;", sig := { parameters := [(.object "java/lang/String")], returnType := some (.object "com/example/standing_order/standingorder/api/InstanceForm") }, accessFlags := 9, code := some k12c0 }
def k12c1 : Code := { maxStack := 1, maxLocals := 1, code := prog_4_method_6_code, exceptionTable := #[], attributes := #[] }
def k12m1 : Method := { name := "engine", desc := "()Ljava/lang/String;", sig := { parameters := [], returnType := some (.object "java/lang/String") }, accessFlags := 1, code := some k12c1 }
/-- com/example/standing_order/standingorder/api/InstanceForm -/
def k12 : Class := { plain "com/example/standing_order/standingorder/api/InstanceForm" (some 11) with
  accessFlags := 16433
  interfaces := #[]
  cf := some (fileOf pool12 1 #[] #[{ accessFlags := 9, nameIndex := 61, descriptorIndex := 62, attributes := #[] }, { accessFlags := 1, nameIndex := 31, descriptorIndex := 58, attributes := #[] }] 16433 20 #[] #[{ accessFlags := 16409, nameIndex := 5, descriptorIndex := 6, attributes := #[] }, { accessFlags := 16409, nameIndex := 9, descriptorIndex := 6, attributes := #[] }, { accessFlags := 18, nameIndex := 31, descriptorIndex := 32, attributes := #[] }, { accessFlags := 18, nameIndex := 35, descriptorIndex := 32, attributes := #[] }, { accessFlags := 18, nameIndex := 38, descriptorIndex := 32, attributes := #[] }, { accessFlags := 18, nameIndex := 41, descriptorIndex := 32, attributes := #[] }, { accessFlags := 18, nameIndex := 44, descriptorIndex := 32, attributes := #[] }, { accessFlags := 18, nameIndex := 47, descriptorIndex := 32, attributes := #[] }, { accessFlags := 4122, nameIndex := 12, descriptorIndex := 13, attributes := #[] }])
  fields := #[{ name := "MONGODB", type := (.object "com/example/standing_order/standingorder/api/InstanceForm"), accessFlags := 16409, slot := 0, constantValue := 0 }, { name := "REDIS", type := (.object "com/example/standing_order/standingorder/api/InstanceForm"), accessFlags := 16409, slot := 1, constantValue := 0 }, { name := "engine", type := (.object "java/lang/String"), accessFlags := 18, slot := 3, constantValue := 0 }, { name := "idKey", type := (.object "java/lang/String"), accessFlags := 18, slot := 4, constantValue := 0 }, { name := "classKey", type := (.object "java/lang/String"), accessFlags := 18, slot := 5, constantValue := 0 }, { name := "sizeKey", type := (.object "java/lang/String"), accessFlags := 18, slot := 6, constantValue := 0 }, { name := "typeKey", type := (.object "java/lang/String"), accessFlags := 18, slot := 7, constantValue := 0 }, { name := "statusKey", type := (.object "java/lang/String"), accessFlags := 18, slot := 8, constantValue := 0 }, { name := "$VALUES", type := (.array (.object "com/example/standing_order/standingorder/api/InstanceForm")), accessFlags := 4122, slot := 2, constantValue := 0 }]
  methods := #[k12m0, k12m1]
  instanceTypes := #[(.object "java/lang/String"), .int, .int, (.object "java/lang/String"), (.object "java/lang/String"), (.object "java/lang/String"), (.object "java/lang/String"), (.object "java/lang/String"), (.object "java/lang/String")]
  staticTypes := #[(.object "com/example/standing_order/standingorder/api/InstanceForm"), (.object "com/example/standing_order/standingorder/api/InstanceForm"), (.array (.object "com/example/standing_order/standingorder/api/InstanceForm"))]
  resolved := Array.replicate 133 none
  statics := some 2 }

def pool13 : Array CpInfo := pool [(9, u "<init>"), (6, .class_ 18), (1, u "java/lang/Object"), (0, u "()V"), (1, .class_ 23), (1, u "jdk/internal/util/ArraysSupport"), (0, u "LOG2_ARRAY_LONG_INDEX_SCALE"), (0, u "I"), (2, u "U"), (0, u "Ljdk/internal/misc/Unsafe;"), (8, u "BIG_ENDIAN"), (0, u "Z"), (8, u "LOG2_BYTE_BIT_SIZE"), (4, u "LOG2_ARRAY_INT_INDEX_SCALE"), (54, u "JLA"), (0, u "Ljdk/internal/access/JavaLangAccess;"), (11, u "LOG2_ARRAY_BOOLEAN_INDEX_SCALE"), (9, u "LOG2_ARRAY_BYTE_INDEX_SCALE"), (5, u "LOG2_ARRAY_CHAR_INDEX_SCALE"), (5, u "LOG2_ARRAY_SHORT_INDEX_SCALE"), (18, u "LOG2_ARRAY_FLOAT_INDEX_SCALE"), (24, u "LOG2_ARRAY_DOUBLE_INDEX_SCALE"), (89, u "T_BOOLEAN"), (2, u "T_CHAR"), (1, u "T_FLOAT"), (1, u "T_DOUBLE"), (1, u "T_BYTE"), (1, u "T_SHORT"), (1, u "T_INT"), (1, u "T_LONG"), (1, u "SOFT_MAX_ARRAY_LENGTH")] 83

def k13m0 : Method := { name := "<init>", desc := "()V", sig := { parameters := [], returnType := none }, accessFlags := 2, code := none }
/-- jdk/internal/util/ArraysSupport -/
def k13 : Class := { plain "jdk/internal/util/ArraysSupport" (some 0) with
  accessFlags := 33
  interfaces := #[]
  cf := some (fileOf pool13 21 #[] #[{ accessFlags := 2, nameIndex := 9, descriptorIndex := 19, attributes := #[] }] 33 16 #[] #[{ accessFlags := 24, nameIndex := 28, descriptorIndex := 29, attributes := #[] }, { accessFlags := 26, nameIndex := 38, descriptorIndex := 39, attributes := #[] }, { accessFlags := 25, nameIndex := 121, descriptorIndex := 25, attributes := #[] }, { accessFlags := 25, nameIndex := 131, descriptorIndex := 25, attributes := #[] }, { accessFlags := 25, nameIndex := 137, descriptorIndex := 25, attributes := #[] }, { accessFlags := 25, nameIndex := 143, descriptorIndex := 25, attributes := #[] }, { accessFlags := 25, nameIndex := 53, descriptorIndex := 25, attributes := #[] }, { accessFlags := 25, nameIndex := 24, descriptorIndex := 25, attributes := #[] }, { accessFlags := 25, nameIndex := 162, descriptorIndex := 25, attributes := #[] }, { accessFlags := 25, nameIndex := 187, descriptorIndex := 25, attributes := #[] }, { accessFlags := 26, nameIndex := 48, descriptorIndex := 25, attributes := #[] }, { accessFlags := 25, nameIndex := 277, descriptorIndex := 25, attributes := #[] }, { accessFlags := 25, nameIndex := 280, descriptorIndex := 25, attributes := #[] }, { accessFlags := 25, nameIndex := 282, descriptorIndex := 25, attributes := #[] }, { accessFlags := 25, nameIndex := 284, descriptorIndex := 25, attributes := #[] }, { accessFlags := 25, nameIndex := 286, descriptorIndex := 25, attributes := #[] }, { accessFlags := 25, nameIndex := 288, descriptorIndex := 25, attributes := #[] }, { accessFlags := 25, nameIndex := 290, descriptorIndex := 25, attributes := #[] }, { accessFlags := 25, nameIndex := 292, descriptorIndex := 25, attributes := #[] }, { accessFlags := 26, nameIndex := 108, descriptorIndex := 109, attributes := #[] }, { accessFlags := 25, nameIndex := 294, descriptorIndex := 25, attributes := #[] }])
  fields := #[{ name := "U", type := (.object "jdk/internal/misc/Unsafe"), accessFlags := 24, slot := 0, constantValue := 0 }, { name := "BIG_ENDIAN", type := .boolean, accessFlags := 26, slot := 1, constantValue := 0 }, { name := "LOG2_ARRAY_BOOLEAN_INDEX_SCALE", type := .int, accessFlags := 25, slot := 2, constantValue := 0 }, { name := "LOG2_ARRAY_BYTE_INDEX_SCALE", type := .int, accessFlags := 25, slot := 3, constantValue := 0 }, { name := "LOG2_ARRAY_CHAR_INDEX_SCALE", type := .int, accessFlags := 25, slot := 4, constantValue := 0 }, { name := "LOG2_ARRAY_SHORT_INDEX_SCALE", type := .int, accessFlags := 25, slot := 5, constantValue := 0 }, { name := "LOG2_ARRAY_INT_INDEX_SCALE", type := .int, accessFlags := 25, slot := 6, constantValue := 0 }, { name := "LOG2_ARRAY_LONG_INDEX_SCALE", type := .int, accessFlags := 25, slot := 7, constantValue := 0 }, { name := "LOG2_ARRAY_FLOAT_INDEX_SCALE", type := .int, accessFlags := 25, slot := 8, constantValue := 0 }, { name := "LOG2_ARRAY_DOUBLE_INDEX_SCALE", type := .int, accessFlags := 25, slot := 9, constantValue := 0 }, { name := "LOG2_BYTE_BIT_SIZE", type := .int, accessFlags := 26, slot := 10, constantValue := 0 }, { name := "T_BOOLEAN", type := .int, accessFlags := 25, slot := 11, constantValue := 0 }, { name := "T_CHAR", type := .int, accessFlags := 25, slot := 12, constantValue := 0 }, { name := "T_FLOAT", type := .int, accessFlags := 25, slot := 13, constantValue := 0 }, { name := "T_DOUBLE", type := .int, accessFlags := 25, slot := 14, constantValue := 0 }, { name := "T_BYTE", type := .int, accessFlags := 25, slot := 15, constantValue := 0 }, { name := "T_SHORT", type := .int, accessFlags := 25, slot := 16, constantValue := 0 }, { name := "T_INT", type := .int, accessFlags := 25, slot := 17, constantValue := 0 }, { name := "T_LONG", type := .int, accessFlags := 25, slot := 18, constantValue := 0 }, { name := "JLA", type := (.object "jdk/internal/access/JavaLangAccess"), accessFlags := 26, slot := 19, constantValue := 0 }, { name := "SOFT_MAX_ARRAY_LENGTH", type := .int, accessFlags := 25, slot := 20, constantValue := 0 }]
  methods := #[k13m0]
  instanceTypes := #[]
  staticTypes := #[(.object "jdk/internal/misc/Unsafe"), .boolean, .int, .int, .int, .int, .int, .int, .int, .int, .int, .int, .int, .int, .int, .int, .int, .int, .int, (.object "jdk/internal/access/JavaLangAccess"), .int]
  resolved := Array.replicate 378 none
  statics := none }

def pool14 : Array CpInfo := pool [(1, u "java/lang/Cloneable"), (0, .class_ 1), (0, u "java/lang/Object"), (0, .class_ 3)] 3

/-- java/lang/Cloneable -/
def k14 : Class := { plain "java/lang/Cloneable" (some 0) with
  accessFlags := 1537
  interfaces := #[]
  cf := some (fileOf pool14 2 #[] #[] 1537 4 #[] #[])
  fields := #[]
  methods := #[]
  instanceTypes := #[]
  staticTypes := #[]
  resolved := Array.replicate 8 none
  statics := none }

/-- the primitive byte -/
def k15 : Class := { plain "byte" none with kind := .primitive 'B', accessFlags := 0x411 }
/-- [B -/
def k16 : Class := { plain "[B" (some 0) with kind := .array 15 .byte, interfaces := #[14, 2], accessFlags := 1041 }

/-- the primitive char -/
def k17 : Class := { plain "char" none with kind := .primitive 'C', accessFlags := 0x411 }
/-- [C -/
def k18 : Class := { plain "[C" (some 0) with kind := .array 17 .char, interfaces := #[14, 2], accessFlags := 1041 }

/-- the primitive int -/
def k19 : Class := { plain "int" none with kind := .primitive 'I', accessFlags := 0x411 }
/-- [I -/
def k20 : Class := { plain "[I" (some 0) with kind := .array 19 .int, interfaces := #[14, 2], accessFlags := 1041 }

def heap : Heap := #[{ cls := 7, slots := #[.long 0, .int 1, .null, .int 0, .null, .int 0, .int 0], vm := .statics 7 },
  { cls := 10, slots := #[.null, .null, .null], vm := .statics 10 },
  { cls := 12, slots := #[.ref 8, .ref 5, .null], vm := .statics 12 },
  { cls := 16, slots := #[.int 82, .int 101, .int 100, .int 105, .int 115], vm := .none },
  { cls := 7, slots := #[.ref 3, .int 0, .int 0, .int 0], vm := .none },
  { cls := 12, slots := #[.null, .int 0, .int 0, .ref 4, .null, .null, .null, .null, .null], vm := .none },
  { cls := 16, slots := #[.int 77, .int 111, .int 110, .int 103, .int 111, .int 68, .int 66], vm := .none },
  { cls := 7, slots := #[.ref 6, .int 0, .int 0, .int 0], vm := .none },
  { cls := 12, slots := #[.null, .int 1, .int 0, .ref 7, .null, .null, .null, .null, .null], vm := .none }]
def classes : Array Class := #[k0, k1, k2, k3, k4, k5, k6, k7, k8, k9, k10, k11, k12, k13, k14, k15, k16, k17, k18, k19, k20]
def interned : List (Array UInt16 × Addr) := []
def slotsUsed : Nat := 51
def theMethod : MethodId := ⟨1, 1⟩
def args0 : Array Value := #[.int 5, .int 1, .int 2, .int 3]
def aboutOver (below : List Frame) : State where
  vm := { classes := classes, interned := interned.toArray }
  heap := heap
  slotsUsed := slotsUsed
  threads := #[{ frames := .invoking theMethod args0 :: below }]
def below0 : List Frame := [.native { method := ⟨0, 0⟩, args := #[] }]
def about1 : State := aboutOver below0
def p0 : Program := .bare "" "" ""
def e0 : Env := launch0.env 0 0 0
theorem w_frames : about1.frames = Frame.invoking theMethod args0 :: below0 := rfl
set_option maxRecDepth 65536 in
theorem w_args : argsFit about1.vm theMethod args0 = true := by decide +kernel
set_option maxRecDepth 65536 in
theorem w_heap : heapFits about1 = true := by decide +kernel
set_option maxRecDepth 65536 in
theorem w_runnable : about1.curStatus? = some .runnable := by decide +kernel
set_option maxRecDepth 65536 in
theorem w_alone : about1.alone = true := by decide +kernel
set_option maxRecDepth 65536 in
theorem w_named : about1.methodNamed? x = some theMethod := by decide +kernel
set_option maxRecDepth 65536 in
theorem w_hears : about1.hears theMethod below0 = true := by decide +kernel
set_option maxRecDepth 65536 in
theorem w_ripe : about1.ripe theMethod args0 below0 = true := by decide +kernel
theorem w_running : about1.status = .running := rfl
set_option maxRecDepth 65536 in
theorem w_room : about1.hasRoom e0.platform room_1 = true :=
  launch0.hasRoom_least _ room_1 (by decide +kernel) (by decide +kernel) (by decide +kernel) (by decide +kernel) (by decide +kernel) (by decide +kernel)
theorem allAtoms_all (ts : List Jvm.Cond) (a : Array Jvm.Value) (st : Jvm.State) : (allAtoms ts).before a st = ts.all (fun c => c.before a st) := by
  induction ts with
  | nil => rfl
  | cons c t ih =>
    show (Jvm.Cond.and c (allAtoms t)).before a st = _
    rw [Jvm.Cond.before_and, ih, List.all_cons]
def words1 : List Jvm.Cond := Jvm.Cond.code x code maxLocals ret :: tables_1
/-- a 'code' word, met by the world's own term for the bytes: nothing is compared byte by byte -/
theorem code_word {y : MethodName} {bytes : ByteArray} {mx : Nat} {rt : Option FieldType} {a : Array Value} {s : State} {m : MethodId} {meth : Method} {c : Code} (h1 : s.methodNamed? y = some m) (h2 : s.vm.method? m = some meth) (h3 : meth.code = some c) (h4 : c.code = bytes)
    (h5 : (c.maxLocals == mx && c.exceptionTable.isEmpty && decide (c.maxStack ≤ mostOperands) && decide (meth.sig.returnType = rt) && !meth.locks && decide (parseMethodDescriptor y.desc = some meth.sig)) = true) : (Jvm.Cond.code y bytes mx rt).before a s = true := by
  simp only [Bool.and_eq_true, beq_iff_eq, Bool.not_eq_true', decide_eq_true_eq] at h5
  obtain ⟨⟨⟨⟨⟨g1, g2⟩, g3⟩, g4⟩, g5⟩, g6⟩ := h5
  simp [Cond.before, Cond.holds, Cond.value, h1, h2, h3, h4, g1, g2, g3, g4, g5, g6]
def isCode : Jvm.Cond → Bool
  | .code _ _ _ _ => true
  | _ => false
theorem all_split {L : List Jvm.Cond} {P : Jvm.Cond → Bool} (h1 : L.all (fun c => isCode c || P c) = true) (h2 : ∀ c ∈ L.filter isCode, P c = true) : L.all P = true := by
  refine List.all_eq_true.mpr fun c hc => ?_
  have h := List.all_eq_true.mp h1 c hc
  rcases Bool.eq_false_or_eq_true (isCode c) with hi | hi
  · exact h2 c (List.mem_filter.mpr ⟨hc, hi⟩)
  · simpa [hi] using h
set_option maxRecDepth 65536 in
theorem w_c0 : (Jvm.Cond.code x code maxLocals ret).before args0 about1 = true := code_word (m := ⟨1, 1⟩) (meth := k1m1) (c := k1c1) (by decide +kernel) rfl rfl rfl (by decide +kernel)
set_option maxRecDepth 65536 in
theorem w_c1 : (Jvm.Cond.code ({ cls := "java/lang/String", name := "<init>", desc := "([C)V" } : Jvm.MethodName) jdk_42_method_3_code (2 : Nat) (Option.none : Option Jvm.ClassFile.FieldType)).before args0 about1 = true := code_word (m := ⟨7, 1⟩) (meth := k7m1) (c := k7c1) (by decide +kernel) rfl rfl rfl (by decide +kernel)
set_option maxRecDepth 65536 in
theorem w_c2 : (Jvm.Cond.code ({ cls := "java/lang/String", name := "<init>", desc := "([CIILjava/lang/Void;)V" } : Jvm.MethodName) jdk_42_method_149_code (6 : Nat) (Option.none : Option Jvm.ClassFile.FieldType)).before args0 about1 = true := code_word (m := ⟨7, 6⟩) (meth := k7m6) (c := k7c6) (by decide +kernel) rfl rfl rfl (by decide +kernel)
set_option maxRecDepth 65536 in
theorem w_c3 : (Jvm.Cond.code ({ cls := "java/lang/Object", name := "<init>", desc := "()V" } : Jvm.MethodName) object_method_1_code (1 : Nat) (Option.none : Option Jvm.ClassFile.FieldType)).before args0 about1 = true := code_word (m := ⟨0, 0⟩) (meth := k0m0) (c := k0c0) (by decide +kernel) rfl rfl rfl (by decide +kernel)
set_option maxRecDepth 65536 in
theorem w_c4 : (Jvm.Cond.code ({ cls := "java/lang/StringUTF16", name := "compress", desc := "([CII)[B" } : Jvm.MethodName) jdk_52_method_16_code (6 : Nat) (Option.some (Jvm.ClassFile.FieldType.array Jvm.ClassFile.FieldType.byte))).before args0 about1 = true := code_word (m := ⟨8, 2⟩) (meth := k8m2) (c := k8c2) (by decide +kernel) rfl rfl rfl (by decide +kernel)
set_option maxRecDepth 65536 in
theorem w_c5 : (Jvm.Cond.code ({ cls := "java/lang/StringUTF16", name := "compress", desc := "([CI[BII)I" } : Jvm.MethodName) jdk_52_method_21_code (7 : Nat) (Option.some Jvm.ClassFile.FieldType.int)).before args0 about1 = true := code_word (m := ⟨8, 3⟩) (meth := k8m3) (c := k8c3) (by decide +kernel) rfl rfl rfl (by decide +kernel)
set_option maxRecDepth 65536 in
theorem w_c6 : (Jvm.Cond.code ({ cls := "java/lang/StringUTF16", name := "coderFromArrayLen", desc := "([BI)B" } : Jvm.MethodName) jdk_52_method_15_code (2 : Nat) (Option.some Jvm.ClassFile.FieldType.byte)).before args0 about1 = true := code_word (m := ⟨8, 1⟩) (meth := k8m1) (c := k8c1) (by decide +kernel) rfl rfl rfl (by decide +kernel)
set_option maxRecDepth 65536 in
theorem w_c7 : (Jvm.Cond.code ({ cls := "java/lang/String", name := "length", desc := "()I" } : Jvm.MethodName) jdk_42_method_54_code (1 : Nat) (Option.some Jvm.ClassFile.FieldType.int)).before args0 about1 = true := code_word (m := ⟨7, 2⟩) (meth := k7m2) (c := k7c2) (by decide +kernel) rfl rfl rfl (by decide +kernel)
set_option maxRecDepth 65536 in
theorem w_c8 : (Jvm.Cond.code ({ cls := "java/lang/String", name := "coder", desc := "()B" } : Jvm.MethodName) jdk_42_method_152_code (1 : Nat) (Option.some Jvm.ClassFile.FieldType.byte)).before args0 about1 = true := code_word (m := ⟨7, 8⟩) (meth := k7m8) (c := k7c8) (by decide +kernel) rfl rfl rfl (by decide +kernel)
set_option maxRecDepth 65536 in
theorem w_c9 : (Jvm.Cond.code ({ cls := "java/lang/String", name := "charAt", desc := "(I)C" } : Jvm.MethodName) jdk_42_method_56_code (2 : Nat) (Option.some Jvm.ClassFile.FieldType.char)).before args0 about1 = true := code_word (m := ⟨7, 3⟩) (meth := k7m3) (c := k7c3) (by decide +kernel) rfl rfl rfl (by decide +kernel)
set_option maxRecDepth 65536 in
theorem w_c10 : (Jvm.Cond.code ({ cls := "java/lang/String", name := "isLatin1", desc := "()Z" } : Jvm.MethodName) jdk_42_method_154_code (1 : Nat) (Option.some Jvm.ClassFile.FieldType.boolean)).before args0 about1 = true := code_word (m := ⟨7, 9⟩) (meth := k7m9) (c := k7c9) (by decide +kernel) rfl rfl rfl (by decide +kernel)
set_option maxRecDepth 65536 in
theorem w_c11 : (Jvm.Cond.code ({ cls := "java/lang/StringLatin1", name := "charAt", desc := "([BI)C" } : Jvm.MethodName) jdk_43_method_2_code (2 : Nat) (Option.some Jvm.ClassFile.FieldType.char)).before args0 about1 = true := code_word (m := ⟨9, 1⟩) (meth := k9m1) (c := k9c1) (by decide +kernel) rfl rfl rfl (by decide +kernel)
set_option maxRecDepth 65536 in
theorem w_c12 : (Jvm.Cond.code ({ cls := "java/lang/String", name := "checkIndex", desc := "(II)V" } : Jvm.MethodName) jdk_42_method_155_code (2 : Nat) (Option.none : Option Jvm.ClassFile.FieldType)).before args0 about1 = true := code_word (m := ⟨7, 10⟩) (meth := k7m10) (c := k7c10) (by decide +kernel) rfl rfl rfl (by decide +kernel)
set_option maxRecDepth 65536 in
theorem w_c13 : (Jvm.Cond.code ({ cls := "jdk/internal/util/Preconditions", name := "checkIndex", desc := "(IILjava/util/function/BiFunction;)I" } : Jvm.MethodName) jdk_41_method_11_code (3 : Nat) (Option.some Jvm.ClassFile.FieldType.int)).before args0 about1 = true := code_word (m := ⟨10, 1⟩) (meth := k10m1) (c := k10c1) (by decide +kernel) rfl rfl rfl (by decide +kernel)
set_option maxRecDepth 65536 in
theorem w_c14 : (Jvm.Cond.code ({ cls := "com/example/standing_order/standingorder/api/InstanceForm", name := "ofEngine", desc := "(Ljava/lang/String;)Lcom/example/standing_order/standingorder/api/InstanceForm;" } : Jvm.MethodName) prog_4_method_4_code (1 : Nat) (Option.some (Jvm.ClassFile.FieldType.object "com/example/standing_order/standingorder/api/InstanceForm"))).before args0 about1 = true := code_word (m := ⟨12, 0⟩) (meth := k12m0) (c := k12c0) (by decide +kernel) rfl rfl rfl (by decide +kernel)
set_option maxRecDepth 65536 in
theorem w_c15 : (Jvm.Cond.code ({ cls := "java/lang/String", name := "equals", desc := "(Ljava/lang/Object;)Z" } : Jvm.MethodName) jdk_42_method_66_code (3 : Nat) (Option.some Jvm.ClassFile.FieldType.boolean)).before args0 about1 = true := code_word (m := ⟨7, 4⟩) (meth := k7m4) (c := k7c4) (by decide +kernel) rfl rfl rfl (by decide +kernel)
set_option maxRecDepth 65536 in
theorem w_c16 : (Jvm.Cond.code ({ cls := "java/lang/StringLatin1", name := "equals", desc := "([B[B)Z" } : Jvm.MethodName) jdk_43_method_13_code (3 : Nat) (Option.some Jvm.ClassFile.FieldType.boolean)).before args0 about1 = true := code_word (m := ⟨9, 3⟩) (meth := k9m3) (c := k9c3) (by decide +kernel) rfl rfl rfl (by decide +kernel)
set_option maxRecDepth 65536 in
theorem w_c17 : (Jvm.Cond.code ({ cls := "com/example/standing_order/standingorder/api/InstanceForm", name := "engine", desc := "()Ljava/lang/String;" } : Jvm.MethodName) prog_4_method_6_code (1 : Nat) (Option.some (Jvm.ClassFile.FieldType.object "java/lang/String"))).before args0 about1 = true := code_word (m := ⟨12, 1⟩) (meth := k12m1) (c := k12c1) (by decide +kernel) rfl rfl rfl (by decide +kernel)
set_option maxRecDepth 65536 in
theorem w_c18 : (Jvm.Cond.code ({ cls := "java/lang/String", name := "valueOf", desc := "(C)Ljava/lang/String;" } : Jvm.MethodName) jdk_42_method_139_code (1 : Nat) (Option.some (Jvm.ClassFile.FieldType.object "java/lang/String"))).before args0 about1 = true := code_word (m := ⟨7, 5⟩) (meth := k7m5) (c := k7c5) (by decide +kernel) rfl rfl rfl (by decide +kernel)
set_option maxRecDepth 65536 in
theorem w_c19 : (Jvm.Cond.code ({ cls := "java/lang/StringLatin1", name := "canEncode", desc := "(C)Z" } : Jvm.MethodName) jdk_43_method_3_code (1 : Nat) (Option.some Jvm.ClassFile.FieldType.boolean)).before args0 about1 = true := code_word (m := ⟨9, 2⟩) (meth := k9m2) (c := k9c2) (by decide +kernel) rfl rfl rfl (by decide +kernel)
set_option maxRecDepth 65536 in
theorem w_c20 : (Jvm.Cond.code ({ cls := "java/lang/StringLatin1", name := "toBytes", desc := "(C)[B" } : Jvm.MethodName) jdk_43_method_46_code (1 : Nat) (Option.some (Jvm.ClassFile.FieldType.array Jvm.ClassFile.FieldType.byte))).before args0 about1 = true := code_word (m := ⟨9, 4⟩) (meth := k9m4) (c := k9c4) (by decide +kernel) rfl rfl rfl (by decide +kernel)
set_option maxRecDepth 65536 in
theorem w_c21 : (Jvm.Cond.code ({ cls := "java/lang/String", name := "<init>", desc := "([BB)V" } : Jvm.MethodName) jdk_42_method_151_code (3 : Nat) (Option.none : Option Jvm.ClassFile.FieldType)).before args0 about1 = true := code_word (m := ⟨7, 7⟩) (meth := k7m7) (c := k7c7) (by decide +kernel) rfl rfl rfl (by decide +kernel)
def codes1 : List Jvm.Cond := [Jvm.Cond.code x code maxLocals ret, Jvm.Cond.code ({ cls := "java/lang/String", name := "<init>", desc := "([C)V" } : Jvm.MethodName) jdk_42_method_3_code (2 : Nat) (Option.none : Option Jvm.ClassFile.FieldType), Jvm.Cond.code ({ cls := "java/lang/String", name := "<init>", desc := "([CIILjava/lang/Void;)V" } : Jvm.MethodName) jdk_42_method_149_code (6 : Nat) (Option.none : Option Jvm.ClassFile.FieldType), Jvm.Cond.code ({ cls := "java/lang/Object", name := "<init>", desc := "()V" } : Jvm.MethodName) object_method_1_code (1 : Nat) (Option.none : Option Jvm.ClassFile.FieldType), Jvm.Cond.code ({ cls := "java/lang/StringUTF16", name := "compress", desc := "([CII)[B" } : Jvm.MethodName) jdk_52_method_16_code (6 : Nat) (Option.some (Jvm.ClassFile.FieldType.array Jvm.ClassFile.FieldType.byte)), Jvm.Cond.code ({ cls := "java/lang/StringUTF16", name := "compress", desc := "([CI[BII)I" } : Jvm.MethodName) jdk_52_method_21_code (7 : Nat) (Option.some Jvm.ClassFile.FieldType.int), Jvm.Cond.code ({ cls := "java/lang/StringUTF16", name := "coderFromArrayLen", desc := "([BI)B" } : Jvm.MethodName) jdk_52_method_15_code (2 : Nat) (Option.some Jvm.ClassFile.FieldType.byte), Jvm.Cond.code ({ cls := "java/lang/String", name := "length", desc := "()I" } : Jvm.MethodName) jdk_42_method_54_code (1 : Nat) (Option.some Jvm.ClassFile.FieldType.int), Jvm.Cond.code ({ cls := "java/lang/String", name := "coder", desc := "()B" } : Jvm.MethodName) jdk_42_method_152_code (1 : Nat) (Option.some Jvm.ClassFile.FieldType.byte), Jvm.Cond.code ({ cls := "java/lang/String", name := "charAt", desc := "(I)C" } : Jvm.MethodName) jdk_42_method_56_code (2 : Nat) (Option.some Jvm.ClassFile.FieldType.char), Jvm.Cond.code ({ cls := "java/lang/String", name := "isLatin1", desc := "()Z" } : Jvm.MethodName) jdk_42_method_154_code (1 : Nat) (Option.some Jvm.ClassFile.FieldType.boolean), Jvm.Cond.code ({ cls := "java/lang/StringLatin1", name := "charAt", desc := "([BI)C" } : Jvm.MethodName) jdk_43_method_2_code (2 : Nat) (Option.some Jvm.ClassFile.FieldType.char), Jvm.Cond.code ({ cls := "java/lang/String", name := "checkIndex", desc := "(II)V" } : Jvm.MethodName) jdk_42_method_155_code (2 : Nat) (Option.none : Option Jvm.ClassFile.FieldType), Jvm.Cond.code ({ cls := "jdk/internal/util/Preconditions", name := "checkIndex", desc := "(IILjava/util/function/BiFunction;)I" } : Jvm.MethodName) jdk_41_method_11_code (3 : Nat) (Option.some Jvm.ClassFile.FieldType.int), Jvm.Cond.code ({ cls := "com/example/standing_order/standingorder/api/InstanceForm", name := "ofEngine", desc := "(Ljava/lang/String;)Lcom/example/standing_order/standingorder/api/InstanceForm;" } : Jvm.MethodName) prog_4_method_4_code (1 : Nat) (Option.some (Jvm.ClassFile.FieldType.object "com/example/standing_order/standingorder/api/InstanceForm")), Jvm.Cond.code ({ cls := "java/lang/String", name := "equals", desc := "(Ljava/lang/Object;)Z" } : Jvm.MethodName) jdk_42_method_66_code (3 : Nat) (Option.some Jvm.ClassFile.FieldType.boolean), Jvm.Cond.code ({ cls := "java/lang/StringLatin1", name := "equals", desc := "([B[B)Z" } : Jvm.MethodName) jdk_43_method_13_code (3 : Nat) (Option.some Jvm.ClassFile.FieldType.boolean), Jvm.Cond.code ({ cls := "com/example/standing_order/standingorder/api/InstanceForm", name := "engine", desc := "()Ljava/lang/String;" } : Jvm.MethodName) prog_4_method_6_code (1 : Nat) (Option.some (Jvm.ClassFile.FieldType.object "java/lang/String")), Jvm.Cond.code ({ cls := "java/lang/String", name := "valueOf", desc := "(C)Ljava/lang/String;" } : Jvm.MethodName) jdk_42_method_139_code (1 : Nat) (Option.some (Jvm.ClassFile.FieldType.object "java/lang/String")), Jvm.Cond.code ({ cls := "java/lang/StringLatin1", name := "canEncode", desc := "(C)Z" } : Jvm.MethodName) jdk_43_method_3_code (1 : Nat) (Option.some Jvm.ClassFile.FieldType.boolean), Jvm.Cond.code ({ cls := "java/lang/StringLatin1", name := "toBytes", desc := "(C)[B" } : Jvm.MethodName) jdk_43_method_46_code (1 : Nat) (Option.some (Jvm.ClassFile.FieldType.array Jvm.ClassFile.FieldType.byte)), Jvm.Cond.code ({ cls := "java/lang/String", name := "<init>", desc := "([BB)V" } : Jvm.MethodName) jdk_42_method_151_code (3 : Nat) (Option.none : Option Jvm.ClassFile.FieldType)]
set_option maxRecDepth 65536 in
theorem codes_eq : words1.filter isCode = codes1 := rfl
theorem w_codes : ∀ c ∈ words1.filter isCode, c.before args0 about1 = true := by
  rw [codes_eq]
  intro c hc
  simp only [codes1, List.mem_cons, List.not_mem_nil, or_false] at hc
  rcases hc with rfl | rfl | rfl | rfl | rfl | rfl | rfl | rfl | rfl | rfl | rfl | rfl | rfl | rfl | rfl | rfl | rfl | rfl | rfl | rfl | rfl | rfl
  · exact w_c0
  · exact w_c1
  · exact w_c2
  · exact w_c3
  · exact w_c4
  · exact w_c5
  · exact w_c6
  · exact w_c7
  · exact w_c8
  · exact w_c9
  · exact w_c10
  · exact w_c11
  · exact w_c12
  · exact w_c13
  · exact w_c14
  · exact w_c15
  · exact w_c16
  · exact w_c17
  · exact w_c18
  · exact w_c19
  · exact w_c20
  · exact w_c21
set_option maxRecDepth 65536 in
theorem w_t1 : (words1.take 24).all (fun c => isCode c || c.before args0 about1) = true := by decide +kernel
set_option maxRecDepth 65536 in
theorem w_t2 : ((words1.drop 24).take 24).all (fun c => isCode c || c.before args0 about1) = true := by decide +kernel
set_option maxRecDepth 65536 in
theorem w_t3 : (((words1.drop 24).drop 24).take 24).all (fun c => isCode c || c.before args0 about1) = true := by decide +kernel
set_option maxRecDepth 65536 in
theorem w_t4 : ((((words1.drop 24).drop 24).drop 24).take 24).all (fun c => isCode c || c.before args0 about1) = true := by decide +kernel
set_option maxRecDepth 65536 in
theorem w_t5 : ((((words1.drop 24).drop 24).drop 24).drop 24).all (fun c => isCode c || c.before args0 about1) = true := by decide +kernel
theorem w_tables : (allAtoms (Jvm.Cond.code x code maxLocals ret :: tables_1)).before args0 about1 = true := by
  rw [allAtoms_all]
  show words1.all (fun c => c.before args0 about1) = true
  refine all_split ?_ w_codes
  rw [← List.take_append_drop 24 words1, List.all_append, w_t1, ← List.take_append_drop 24 (words1.drop 24), List.all_append, w_t2, ← List.take_append_drop 24 ((words1.drop 24).drop 24), List.all_append, w_t3, ← List.take_append_drop 24 (((words1.drop 24).drop 24).drop 24), List.all_append, w_t4, w_t5]
  rfl
set_option maxRecDepth 65536 in
theorem w_rest : rest_1_c.before args0 about1 = true := by decide +kernel
set_option maxRecDepth 65536 in
theorem w_case : (Jvm.Cond.and given_1 narrow_1).before args0 about1 = true := by decide +kernel
set_option maxRecDepth 65536 in
theorem w_consts : constsHeld consts_1 about1 := Jvm.Lit.constsHeldB_iff.mp (by decide +kernel)
theorem w_applies : (headSpec (Jvm.Cond.code x code maxLocals ret :: tables_1) room_1).applies x e0.platform about1 = true :=
  (Spec.applies_iff w_frames).mpr ⟨w_running, w_runnable, w_alone, w_named, w_hears, w_ripe, w_room, w_tables⟩
theorem atStart : AtStart classFile x code maxLocals ret World_1 tables_1 room_1 Calls_1 rest_1 Pre_1 launch0 p0 e0 about1 theMethod args0 below0 :=
  ⟨lists_1, trivial, launch0.admits_env _ _ _, launch0.least_env, fairChoices_fair.cas, fairChoices_fair.clock, w_frames, w_args, w_heap, w_applies, ⟨w_consts, trivial⟩, w_rest, w_case⟩
end start1
theorem witness_1 : WitnessClaimed_1 := ⟨start1.p0, start1.e0, start1.about1, start1.theMethod, start1.args0, start1.below0, start1.atStart⟩
end Jvm.Pilot.@@N@@
