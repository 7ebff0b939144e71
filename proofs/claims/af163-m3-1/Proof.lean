import JvmDerived
import JvmDerived.Pilot.@@N@@Statement
import JvmDerived.Pilot.@@N@@Code
set_option linter.unusedVariables false
set_option linter.unusedSimpArgs false
namespace Jvm.Pilot.@@N@@
open Jvm Jvm.ClassFile Sem Op Lib Jvm.Free Jvm.Stand Jvm.LawKit Jvm.RoadKit Bundle Jvm.Pilot.@@N@@.Jvm.D
theorem own_lt32 {a b : Int32} : a < b ↔ a.toInt < b.toInt := Int32.lt_iff_toInt_lt
theorem own_eq32 {a b : Int32} : a = b ↔ a.toInt = b.toInt := Int32.toInt_inj.symm
theorem own_lt64 {a b : Int64} : a < b ↔ a.toInt < b.toInt := Int64.lt_iff_toInt_lt
theorem own_eq64 {a b : Int64} : a = b ↔ a.toInt = b.toInt := Int64.toInt_inj.symm
theorem d2_0 : decode jdk_30_method_1_code 0 = .ok (.aload_n 0, 1) := by decide +kernel
theorem d2_1 : decode jdk_30_method_1_code 1 = .ok (.invokespecial 1, 3) := by decide +kernel
def Q_rm2 (Z : State) (o0 : Addr) (h0 : Heap) (n0 : Nat) (v : Option Value) (h : Heap) (L : List Loc) : Prop := v = none ∧ Fr n0 L ∧ h = h0
theorem pn_2 : plainName "java/lang/Record" = true := by first | (simp [plainName, overriddenIn]; done) | decide +kernel
theorem ef_2 (m : MethodId) (x0 : Addr) : entryFrame m #[(.ref x0)] 1 = mkF m 0 #[.val (.ref x0)] [] := by first | (simp [entryFrame, mkF, argsToLocals, Value.category]; done) | rfl
theorem d2_4 : decode jdk_30_method_1_code 4 = .ok (.return_, 1) := by decide +kernel
set_option maxRecDepth 65536 in
set_option maxHeartbeats 40000000 in
theorem rm2 (l : Launch) (Z : State) (a0 : Array Value) (hw : ∀ d ∈ tables_1, d.before a0 Z = true) (ws : List Jvm.Cond) (o0 : Addr) (h0 : Heap) (n0 : Nat) (Z0 : n0 ≤ h0.size) :
    MetFree l (⟨"java/lang/Record", "<init>", "()V"⟩ : MethodName) (head1 (Jvm.Cond.code (⟨"java/lang/Record", "<init>", "()V"⟩ : MethodName) jdk_30_method_1_code 1 none :: ws) ({ frames := 1, cells := 0, slots := 0, locals := 12 } : Room)) (fun a U => a = #[(.ref o0)] ∧ Z.Warmed39 U.vm ∧ U.heap = h0) (fun _ _ _ _ _ => True) (fun _ U o U' => ∃ v L, o = .returned v ∧ Q_rm2 Z o0 h0 n0 v U'.heap L ∧ FrameEnd U o U' L ({ frames := 1, cells := 0, slots := 0, locals := 12 } : Room).cells ({ frames := 1, cells := 0, slots := 0, locals := 12 } : Room).slots) := by
  refine MetFree.of_bodySF (plainFor_of_name pn_2) hisR ?_
  intro p e s m args below meth c s₁ Bd hml0 hP hK
  obtain ⟨rfl, hZ, hh⟩ := hP
  have hx := Bd.exec
  have hby := Bd.bytes
  have hml : c.maxLocals = 1 := hml0
  have hown : s.vm.findClass "java/lang/Record" = some m.cls := findClass_of_methodNamed Bd.named
  have hnm := (name_of_methodNamed Bd.named Bd.method).1
  have X0 : Stand p l e ({ frames := 1, cells := 0, slots := 0, locals := 12 } : Room) s m #[(.ref o0)] below meth c s₁ [] 0 0 := Stand.of_body Bd
  have e0 : s₁.heap = h0 := by rw [← hh, Bd.state]; rfl
  have N0 := Fr.nil n0
  have Kp0 : Keep h0 h0 [] := Keep.refl _ _
  have K0 : Steps p.tables e below (s₁.setTop (entryFrame m #[(.ref o0)] 1)) (s₁.setTop (mkF m 0 #[.val (.ref o0)] [])) := castTop (ef_2 m o0) (Steps.refl _)
  have K1 : Steps p.tables e below _ (s₁.setTop (mkF m 1 #[.val (.ref o0)] [(.ref o0)])) := K0.trans (by
    show Steps p.tables e below (s₁.setTop (mkF m 0 #[.val (.ref o0)] [])) _
    refine XS.aloadN X0.here hx rfl (hb hby d2_0) rfl rfl ?_
    show Steps p.tables e below (s₁.setTop (mkF m 1 #[.val (.ref o0)] [(.ref o0)])) _
    exact Steps.refl _)
  obtain ⟨T2, X2, e2, st2⟩ := initO X0 hx hZ hown (hw _ (List.mem_of_getElem? (i := 11) rfl)) (hw _ (List.mem_of_getElem? (i := 12) rfl)) (hw _ (List.mem_of_getElem? (i := 13) rfl)) e0 (g := (mkF m 1 #[.val (.ref o0)] [(.ref o0)])) rfl (by rw [hml]; rfl) rfl (hb hby d2_1) (by decide) (W := 0) (by show 2 * 0 + _ ≤ _; exact Nat.le_of_eq rfl) (by decide)
  have K3 : Steps p.tables e below _ (T2.setTop (mkF m 4 #[.val (.ref o0)] [])) := K1.trans (st2 _ (Steps.refl _))
  obtain ⟨fs, hr, hrun, hended, hW, hsame⟩ := X2.leave (v := none) (fun _ => rfl)
  refine ⟨_, _, K3.trans (X2.returnOut hx Bd.returns (hb hby d2_4) hr), hrun, hended, _, _, rfl, ?_, ⟨_, rfl⟩, hW, hsame.mono (by decide) (by first | decide | omega)⟩
  show Q_rm2 Z o0 h0 n0 _ T2.heap _
  rw [e2]
  exact ⟨rfl, N0, rfl⟩
theorem d1_0 : decode prog_56_method_1_code 0 = .ok (.aload_n 0, 1) := by decide +kernel
theorem pd_0 : parseMethodDescriptor "()V" = some ⟨[], none⟩ := by decide +kernel
theorem d1_1 : decode prog_56_method_1_code 1 = .ok (.invokespecial 1, 3) := by decide +kernel
theorem d1_4 : decode prog_56_method_1_code 4 = .ok (.aload_n 0, 1) := by decide +kernel
theorem d1_5 : decode prog_56_method_1_code 5 = .ok (.iload_n 1, 1) := by decide +kernel
theorem d1_6 : decode prog_56_method_1_code 6 = .ok (.putfield 7, 3) := by decide +kernel
theorem d1_9 : decode prog_56_method_1_code 9 = .ok (.aload_n 0, 1) := by decide +kernel
theorem d1_10 : decode prog_56_method_1_code 10 = .ok (.iload_n 2, 1) := by decide +kernel
theorem d1_11 : decode prog_56_method_1_code 11 = .ok (.putfield 13, 3) := by decide +kernel
def Q_rm1 (Z : State) (o0 : Addr) (p1 : Int32) (p2 : Int32) (u3_value : Value) (u4_contested : Value) (h0 : Heap) (n0 : Nat) (v : Option Value) (h : Heap) (L : List Loc) : Prop := v = none ∧ Fr n0 L ∧ Keep h0 h [o0] ∧ Exa Z h o0 "com/example/critline/critline/model/PoolTarget" ∧ Fld Z h o0 "com/example/critline/critline/model/PoolTarget" "value" "I" (.int p1) ∧ Fld Z h o0 "com/example/critline/critline/model/PoolTarget" "contested" "Z" (.int (p2 &&& 1))
theorem pn_1 : plainName "com/example/critline/critline/model/PoolTarget" = true := by first | (simp [plainName, overriddenIn]; done) | decide +kernel
theorem ef_1 (m : MethodId) (x0 : Addr) (x1 : Int32) (x2 : Int32) : entryFrame m #[(.ref x0), (.int x1), (.int x2)] 3 = mkF m 0 #[.val (.ref x0), .val (.int x1), .val (.int x2)] [] := by first | (simp [entryFrame, mkF, argsToLocals, Value.category]; done) | rfl
theorem d1_14 : decode prog_56_method_1_code 14 = .ok (.return_, 1) := by decide +kernel
set_option maxRecDepth 65536 in
set_option maxHeartbeats 40000000 in
theorem rm1 (l : Launch) (Z : State) (a0 : Array Value) (hw : ∀ d ∈ tables_1, d.before a0 Z = true) (ws : List Jvm.Cond) (o0 : Addr) (p1 : Int32) (p2 : Int32) (u3_value : Value) (u4_contested : Value) (h0 : Heap) (n0 : Nat) (Z0 : n0 ≤ h0.size) (g_o0 : n0 ≤ o0) (E_o0 : Exa Z h0 o0 "com/example/critline/critline/model/PoolTarget") (F_value_o0 : Fld Z h0 o0 "com/example/critline/critline/model/PoolTarget" "value" "I" u3_value) (F_contested_o0 : Fld Z h0 o0 "com/example/critline/critline/model/PoolTarget" "contested" "Z" u4_contested) :
    MetFree l (⟨"com/example/critline/critline/model/PoolTarget", "<init>", "(IZ)V"⟩ : MethodName) (head1 (Jvm.Cond.code (⟨"com/example/critline/critline/model/PoolTarget", "<init>", "(IZ)V"⟩ : MethodName) prog_56_method_1_code 3 none :: ws) ({ frames := 2, cells := 0, slots := 0, locals := 24 } : Room)) (fun a U => a = #[(.ref o0), (.int p1), (.int p2)] ∧ Z.Warmed39 U.vm ∧ U.heap = h0) (fun _ _ _ _ _ => True) (fun _ U o U' => ∃ v L, o = .returned v ∧ Q_rm1 Z o0 p1 p2 u3_value u4_contested h0 n0 v U'.heap L ∧ FrameEnd U o U' L ({ frames := 2, cells := 0, slots := 0, locals := 24 } : Room).cells ({ frames := 2, cells := 0, slots := 0, locals := 24 } : Room).slots) := by
  refine MetFree.of_bodySF (plainFor_of_name pn_1) hisR ?_
  intro p e s m args below meth c s₁ Bd hml0 hP hK
  obtain ⟨rfl, hZ, hh⟩ := hP
  have hx := Bd.exec
  have hby := Bd.bytes
  have hml : c.maxLocals = 3 := hml0
  have hown : s.vm.findClass "com/example/critline/critline/model/PoolTarget" = some m.cls := findClass_of_methodNamed Bd.named
  have hnm := (name_of_methodNamed Bd.named Bd.method).1
  have X0 : Stand p l e ({ frames := 2, cells := 0, slots := 0, locals := 24 } : Room) s m #[(.ref o0), (.int p1), (.int p2)] below meth c s₁ [] 0 0 := Stand.of_body Bd
  have e0 : s₁.heap = h0 := by rw [← hh, Bd.state]; rfl
  have N0 := Fr.nil n0
  have Kp0 : Keep h0 h0 [o0] := Keep.refl _ _
  have K0 : Steps p.tables e below (s₁.setTop (entryFrame m #[(.ref o0), (.int p1), (.int p2)] 3)) (s₁.setTop (mkF m 0 #[.val (.ref o0), .val (.int p1), .val (.int p2)] [])) := castTop (ef_1 m o0 p1 p2) (Steps.refl _)
  have K1 : Steps p.tables e below _ (s₁.setTop (mkF m 1 #[.val (.ref o0), .val (.int p1), .val (.int p2)] [(.ref o0)])) := K0.trans (by
    show Steps p.tables e below (s₁.setTop (mkF m 0 #[.val (.ref o0), .val (.int p1), .val (.int p2)] [])) _
    refine XS.aloadN X0.here hx rfl (hb hby d1_0) rfl rfl ?_
    show Steps p.tables e below (s₁.setTop (mkF m 1 #[.val (.ref o0), .val (.int p1), .val (.int p2)] [(.ref o0)])) _
    exact Steps.refl _)
  obtain ⟨_, _, ⟨T2, L2, k2, n2⟩, -, X2, ⟨Lc2, hQ2, l2, y2, z2⟩, st2⟩ := X0.specialBack hx (y := (⟨"java/lang/Record", "<init>", "()V"⟩ : MethodName)) rfl hown (mvT hZ (hw _ (List.mem_of_getElem? (i := 6) rfl))) (mvT hZ (hw _ (List.mem_of_getElem? (i := 7) rfl))) (mvT hZ (hw _ (List.mem_of_getElem? (i := 10) rfl))) (by decide) (backOf (W := 0) (rm2 l Z a0 hw [] o0 h0 n0 Z0 ) hZ (hw _ (List.mem_of_getElem? (i := 10) rfl)) (hw _ (List.mem_of_getElem? (i := 9) rfl)) (by decide) (by decide)) (g := (mkF m 1 #[.val (.ref o0), .val (.int p1), .val (.int p2)] [(.ref o0)])) rfl (by rw [hml]; rfl) K1 (a := o0) (argsL := []) (rest := []) (lenOf pd_0 rfl) rfl (by show 2 * 0 + _ ≤ _; exact Nat.le_of_eq rfl) (hb hby d1_1) (fun _ _ => ⟨rfl, e0, (by decide : 0 + 0 ≤ _), (by decide : 0 + 0 ≤ _)⟩)
  dsimp only [Pt.U, Pt.locs, Pt.cells, Pt.slots] at X2 l2 y2 z2 st2 hQ2
  subst l2 y2 z2
  obtain ⟨rfl, N2, eh2⟩ := hQ2
  have N2' := Fr.app N0 N2
  have K3 : Steps p.tables e below _ (T2.setTop (mkF m 4 #[.val (.ref o0), .val (.int p1), .val (.int p2)] [])) := st2
  have K4 : Steps p.tables e below _ (T2.setTop (mkF m 6 #[.val (.ref o0), .val (.int p1), .val (.int p2)] [(.int p1), (.ref o0)])) := K3.trans (by
    show Steps p.tables e below (T2.setTop (mkF m 4 #[.val (.ref o0), .val (.int p1), .val (.int p2)] [])) _
    refine XS.aloadN X2.here hx rfl (hb hby d1_4) rfl rfl ?_
    show Steps p.tables e below (T2.setTop (mkF m 5 #[.val (.ref o0), .val (.int p1), .val (.int p2)] [(.ref o0)])) _
    refine XS.iloadN X2.here hx rfl (hb hby d1_5) rfl ?_
    show Steps p.tables e below (T2.setTop (mkF m 6 #[.val (.ref o0), .val (.int p1), .val (.int p2)] [(.int p1), (.ref o0)])) _
    exact Steps.refl _)
  obtain ⟨T5, h5, X5, e5, W5, st5⟩ := putF X2 hx hZ hown (host := "") (Or.inl (hw _ (List.mem_of_getElem? (i := 14) rfl))) Via.refl eh2 F_value_o0 E_o0 (Or.inr ⟨(hw _ (List.mem_of_getElem? (i := 15) rfl)), rfl, hnm⟩) (hw _ (List.mem_of_getElem? (i := 1) rfl)) (ty := .int) (by decide) rfl rfl (g := (mkF m 6 #[.val (.ref o0), .val (.int p1), .val (.int p2)] [(.int p1), (.ref o0)])) rfl rfl (hb hby d1_6)
  have K6 : Steps p.tables e below _ (T5.setTop (mkF m 9 #[.val (.ref o0), .val (.int p1), .val (.int p2)] [])) := K4.trans (st5 _ (Steps.refl _))
  have Fw5 : Fld Z h5 o0 "com/example/critline/critline/model/PoolTarget" "value" "I" (.int p1) := F_value_o0.same W5
  have N5 := Fr.snoc X5 N2' g_o0
  have K7 : Steps p.tables e below _ (T5.setTop (mkF m 11 #[.val (.ref o0), .val (.int p1), .val (.int p2)] [(.int p2), (.ref o0)])) := K6.trans (by
    show Steps p.tables e below (T5.setTop (mkF m 9 #[.val (.ref o0), .val (.int p1), .val (.int p2)] [])) _
    refine XS.aloadN X5.here hx rfl (hb hby d1_9) rfl rfl ?_
    show Steps p.tables e below (T5.setTop (mkF m 10 #[.val (.ref o0), .val (.int p1), .val (.int p2)] [(.ref o0)])) _
    refine XS.iloadN X5.here hx rfl (hb hby d1_10) rfl ?_
    show Steps p.tables e below (T5.setTop (mkF m 11 #[.val (.ref o0), .val (.int p1), .val (.int p2)] [(.int p2), (.ref o0)])) _
    exact Steps.refl _)
  have E_8 : Exa Z h5 o0 "com/example/critline/critline/model/PoolTarget" := (E_o0.wr W5)
  have F_9 : Fld Z h5 o0 "com/example/critline/critline/model/PoolTarget" "contested" "Z" u4_contested := (F_contested_o0.other W5 (Or.inr (slot_ne (Or.inr (hw _ (List.mem_of_getElem? (i := 17) rfl))) (Or.inr (hw _ (List.mem_of_getElem? (i := 15) rfl))) (by decide) (t := .boolean) (t' := .int) (by decide) (by decide))))
  obtain ⟨T10, h10, X10, e10, W10, st10⟩ := putFN X5 hx hZ hown (hw _ (List.mem_of_getElem? (i := 16) rfl)) Via.refl e5 F_9 E_8 (Or.inr ⟨(hw _ (List.mem_of_getElem? (i := 17) rfl)), rfl, hnm⟩) (hw _ (List.mem_of_getElem? (i := 1) rfl)) (ty := .boolean) (v' := (.int (p2 &&& 1))) (by decide) rfl (fits_nar_bool _) (g := (mkF m 11 #[.val (.ref o0), .val (.int p1), .val (.int p2)] [(.int p2), (.ref o0)])) rfl rfl (hb hby d1_11)
  have K11 : Steps p.tables e below _ (T10.setTop (mkF m 14 #[.val (.ref o0), .val (.int p1), .val (.int p2)] [])) := K7.trans (st10 _ (Steps.refl _))
  have Fw10 : Fld Z h10 o0 "com/example/critline/critline/model/PoolTarget" "contested" "Z" (.int (p2 &&& 1)) := F_9.same W10
  have N10 := Fr.snoc X10 N5 g_o0
  obtain ⟨fs, hr, hrun, hended, hW, hsame⟩ := X10.leave (v := none) (fun _ => rfl)
  have K_12 : Keep h0 h10 [o0] := ((Kp0.wr W5 (Or.inl (List.mem_of_getElem? (i := 0) rfl))).wr W10 (Or.inl (List.mem_of_getElem? (i := 0) rfl)))
  have E_13 : Exa Z h10 o0 "com/example/critline/critline/model/PoolTarget" := (E_8.wr W10)
  have F_14 : Fld Z h10 o0 "com/example/critline/critline/model/PoolTarget" "value" "I" (.int p1) := (Fw5.other W10 (Or.inr (slot_ne (Or.inr (hw _ (List.mem_of_getElem? (i := 15) rfl))) (Or.inr (hw _ (List.mem_of_getElem? (i := 17) rfl))) (by decide) (t := .int) (t' := .boolean) (by decide) (by decide))))
  refine ⟨_, _, K11.trans (X10.returnOut hx Bd.returns (hb hby d1_14) hr), hrun, hended, _, _, rfl, ?_, ⟨_, rfl⟩, hW, hsame.mono (by decide) (by first | decide | omega)⟩
  show Q_rm1 Z o0 p1 p2 u3_value u4_contested h0 n0 _ T10.heap _
  rw [e10]
  exact ⟨rfl, N10, K_12, E_13, F_14, Fw10⟩
theorem d5_0 : decode prog_56_method_8_code 0 = .ok (.aload_n 0, 1) := by decide +kernel
theorem d5_1 : decode prog_56_method_8_code 1 = .ok (.getfield 13, 3) := by decide +kernel
def Q_rm5 (Z : State) (o0 : Addr) (w1_contested : Int32) (h0 : Heap) (n0 : Nat) (v : Option Value) (h : Heap) (L : List Loc) : Prop := v = some (.int (w1_contested &&& 1)) ∧ Fr n0 L ∧ h = h0
theorem pn_5 : plainName "com/example/critline/critline/model/PoolTarget" = true := by first | (simp [plainName, overriddenIn]; done) | decide +kernel
theorem ef_5 (m : MethodId) (x0 : Addr) : entryFrame m #[(.ref x0)] 1 = mkF m 0 #[.val (.ref x0)] [] := by first | (simp [entryFrame, mkF, argsToLocals, Value.category]; done) | rfl
theorem d5_4 : decode prog_56_method_8_code 4 = .ok (.ireturn, 1) := by decide +kernel
set_option maxRecDepth 65536 in
set_option maxHeartbeats 40000000 in
theorem rm5 (l : Launch) (Z : State) (a0 : Array Value) (hw : ∀ d ∈ tables_1, d.before a0 Z = true) (ws : List Jvm.Cond) (o0 : Addr) (w1_contested : Int32) (h0 : Heap) (n0 : Nat) (Z0 : n0 ≤ h0.size) (F_contested_o0 : Fld Z h0 o0 "com/example/critline/critline/model/PoolTarget" "contested" "Z" (.int w1_contested)) :
    MetFree l (⟨"com/example/critline/critline/model/PoolTarget", "contested", "()Z"⟩ : MethodName) (head1 (Jvm.Cond.code (⟨"com/example/critline/critline/model/PoolTarget", "contested", "()Z"⟩ : MethodName) prog_56_method_8_code 1 (some .boolean) :: ws) ({ frames := 0, cells := 0, slots := 0, locals := 0 } : Room)) (fun a U => a = #[(.ref o0)] ∧ Z.Warmed39 U.vm ∧ U.heap = h0) (fun _ _ _ _ _ => True) (fun _ U o U' => ∃ v L, o = .returned v ∧ Q_rm5 Z o0 w1_contested h0 n0 v U'.heap L ∧ FrameEnd U o U' L ({ frames := 0, cells := 0, slots := 0, locals := 0 } : Room).cells ({ frames := 0, cells := 0, slots := 0, locals := 0 } : Room).slots) := by
  refine MetFree.of_bodySF (plainFor_of_name pn_5) hisR ?_
  intro p e s m args below meth c s₁ Bd hml0 hP hK
  obtain ⟨rfl, hZ, hh⟩ := hP
  have hx := Bd.exec
  have hby := Bd.bytes
  have hml : c.maxLocals = 1 := hml0
  have hown : s.vm.findClass "com/example/critline/critline/model/PoolTarget" = some m.cls := findClass_of_methodNamed Bd.named
  have hnm := (name_of_methodNamed Bd.named Bd.method).1
  have X0 : Stand p l e ({ frames := 0, cells := 0, slots := 0, locals := 0 } : Room) s m #[(.ref o0)] below meth c s₁ [] 0 0 := Stand.of_body Bd
  have e0 : s₁.heap = h0 := by rw [← hh, Bd.state]; rfl
  have N0 := Fr.nil n0
  have Kp0 : Keep h0 h0 [] := Keep.refl _ _
  have K0 : Steps p.tables e below (s₁.setTop (entryFrame m #[(.ref o0)] 1)) (s₁.setTop (mkF m 0 #[.val (.ref o0)] [])) := castTop (ef_5 m o0) (Steps.refl _)
  have K1 : Steps p.tables e below _ (s₁.setTop (mkF m 1 #[.val (.ref o0)] [(.ref o0)])) := K0.trans (by
    show Steps p.tables e below (s₁.setTop (mkF m 0 #[.val (.ref o0)] [])) _
    refine XS.aloadN X0.here hx rfl (hb hby d5_0) rfl rfl ?_
    show Steps p.tables e below (s₁.setTop (mkF m 1 #[.val (.ref o0)] [(.ref o0)])) _
    exact Steps.refl _)
  obtain ⟨T2, X2, e2, st2⟩ := getF X0 hx hZ hown (host := "") (Or.inl (hw _ (List.mem_of_getElem? (i := 16) rfl))) Via.refl e0 F_contested_o0 (g := (mkF m 1 #[.val (.ref o0)] [(.ref o0)])) rfl rfl (hb hby d5_1)
  have K3 : Steps p.tables e below _ (T2.setTop (mkF m 4 #[.val (.ref o0)] [(.int w1_contested)])) := K1.trans (st2 _ (Steps.refl _))
  obtain ⟨fs, hr, hrun, hended, hW, hsame⟩ := X2.leave (v := some (.int (w1_contested &&& 1))) (fun h => by rw [Bd.returns] at h; cases h)
  refine ⟨_, _, K3.trans (retN X2 hx (t := .boolean) Bd.returns (by simp) (hb hby d5_4) hr), hrun, hended, _, _, rfl, ?_, ⟨_, rfl⟩, hW, hsame.mono (by decide) (by first | decide | omega)⟩
  show Q_rm5 Z o0 w1_contested h0 n0 _ T2.heap _
  rw [e2]
  exact ⟨rfl, N0, rfl⟩
theorem d6_0 : decode prog_56_method_7_code 0 = .ok (.aload_n 0, 1) := by decide +kernel
theorem d6_1 : decode prog_56_method_7_code 1 = .ok (.getfield 7, 3) := by decide +kernel
def Q_rm6 (Z : State) (o0 : Addr) (w1_value : Int32) (h0 : Heap) (n0 : Nat) (v : Option Value) (h : Heap) (L : List Loc) : Prop := v = some (.int w1_value) ∧ Fr n0 L ∧ h = h0
theorem pn_6 : plainName "com/example/critline/critline/model/PoolTarget" = true := by first | (simp [plainName, overriddenIn]; done) | decide +kernel
theorem ef_6 (m : MethodId) (x0 : Addr) : entryFrame m #[(.ref x0)] 1 = mkF m 0 #[.val (.ref x0)] [] := by first | (simp [entryFrame, mkF, argsToLocals, Value.category]; done) | rfl
theorem d6_4 : decode prog_56_method_7_code 4 = .ok (.ireturn, 1) := by decide +kernel
set_option maxRecDepth 65536 in
set_option maxHeartbeats 40000000 in
theorem rm6 (l : Launch) (Z : State) (a0 : Array Value) (hw : ∀ d ∈ tables_1, d.before a0 Z = true) (ws : List Jvm.Cond) (o0 : Addr) (w1_value : Int32) (h0 : Heap) (n0 : Nat) (Z0 : n0 ≤ h0.size) (F_value_o0 : Fld Z h0 o0 "com/example/critline/critline/model/PoolTarget" "value" "I" (.int w1_value)) :
    MetFree l (⟨"com/example/critline/critline/model/PoolTarget", "value", "()I"⟩ : MethodName) (head1 (Jvm.Cond.code (⟨"com/example/critline/critline/model/PoolTarget", "value", "()I"⟩ : MethodName) prog_56_method_7_code 1 (some .int) :: ws) ({ frames := 0, cells := 0, slots := 0, locals := 0 } : Room)) (fun a U => a = #[(.ref o0)] ∧ Z.Warmed39 U.vm ∧ U.heap = h0) (fun _ _ _ _ _ => True) (fun _ U o U' => ∃ v L, o = .returned v ∧ Q_rm6 Z o0 w1_value h0 n0 v U'.heap L ∧ FrameEnd U o U' L ({ frames := 0, cells := 0, slots := 0, locals := 0 } : Room).cells ({ frames := 0, cells := 0, slots := 0, locals := 0 } : Room).slots) := by
  refine MetFree.of_bodySF (plainFor_of_name pn_6) hisR ?_
  intro p e s m args below meth c s₁ Bd hml0 hP hK
  obtain ⟨rfl, hZ, hh⟩ := hP
  have hx := Bd.exec
  have hby := Bd.bytes
  have hml : c.maxLocals = 1 := hml0
  have hown : s.vm.findClass "com/example/critline/critline/model/PoolTarget" = some m.cls := findClass_of_methodNamed Bd.named
  have hnm := (name_of_methodNamed Bd.named Bd.method).1
  have X0 : Stand p l e ({ frames := 0, cells := 0, slots := 0, locals := 0 } : Room) s m #[(.ref o0)] below meth c s₁ [] 0 0 := Stand.of_body Bd
  have e0 : s₁.heap = h0 := by rw [← hh, Bd.state]; rfl
  have N0 := Fr.nil n0
  have Kp0 : Keep h0 h0 [] := Keep.refl _ _
  have K0 : Steps p.tables e below (s₁.setTop (entryFrame m #[(.ref o0)] 1)) (s₁.setTop (mkF m 0 #[.val (.ref o0)] [])) := castTop (ef_6 m o0) (Steps.refl _)
  have K1 : Steps p.tables e below _ (s₁.setTop (mkF m 1 #[.val (.ref o0)] [(.ref o0)])) := K0.trans (by
    show Steps p.tables e below (s₁.setTop (mkF m 0 #[.val (.ref o0)] [])) _
    refine XS.aloadN X0.here hx rfl (hb hby d6_0) rfl rfl ?_
    show Steps p.tables e below (s₁.setTop (mkF m 1 #[.val (.ref o0)] [(.ref o0)])) _
    exact Steps.refl _)
  obtain ⟨T2, X2, e2, st2⟩ := getF X0 hx hZ hown (host := "") (Or.inl (hw _ (List.mem_of_getElem? (i := 14) rfl))) Via.refl e0 F_value_o0 (g := (mkF m 1 #[.val (.ref o0)] [(.ref o0)])) rfl rfl (hb hby d6_1)
  have K3 : Steps p.tables e below _ (T2.setTop (mkF m 4 #[.val (.ref o0)] [(.int w1_value)])) := K1.trans (st2 _ (Steps.refl _))
  obtain ⟨fs, hr, hrun, hended, hW, hsame⟩ := X2.leave (v := some (.int w1_value)) (fun h => by rw [Bd.returns] at h; cases h)
  refine ⟨_, _, K3.trans (retOut X2 hx Bd.returns rfl (Or.inl ⟨rfl, Or.inl rfl, _, rfl⟩) (hb hby d6_4) hr), hrun, hended, _, _, rfl, ?_, ⟨_, rfl⟩, hW, hsame.mono (by decide) (by first | decide | omega)⟩
  show Q_rm6 Z o0 w1_value h0 n0 _ T2.heap _
  rw [e2]
  exact ⟨rfl, N0, rfl⟩
theorem d4_0 : decode prog_18_method_4_code 0 = .ok (.aload_n 1, 1) := by decide +kernel
theorem pd_1 : parseMethodDescriptor "()Z" = some ⟨[], some .boolean⟩ := by decide +kernel
theorem d4_1 : decode prog_18_method_4_code 1 = .ok (.invokevirtual 57, 3) := by decide +kernel
theorem d4_4 : decode prog_18_method_4_code 4 = .ok (.ifCond .eq 19, 3) := by decide +kernel
theorem d4_23 : decode prog_18_method_4_code 23 = .ok (.iload_n 0, 1) := by decide +kernel
theorem d4_24 : decode prog_18_method_4_code 24 = .ok (.aload_n 1, 1) := by decide +kernel
theorem pd_2 : parseMethodDescriptor "()I" = some ⟨[], some .int⟩ := by decide +kernel
theorem d4_25 : decode prog_18_method_4_code 25 = .ok (.invokevirtual 62, 3) := by decide +kernel
theorem d4_28 : decode prog_18_method_4_code 28 = .ok (.if_icmp .lt 7, 3) := by decide +kernel
theorem d4_35 : decode prog_18_method_4_code 35 = .ok (.iconst 0, 1) := by decide +kernel
theorem d4_31 : decode prog_18_method_4_code 31 = .ok (.iconst 1, 1) := by decide +kernel
theorem d4_32 : decode prog_18_method_4_code 32 = .ok (.goto 4, 3) := by decide +kernel
theorem d4_7 : decode prog_18_method_4_code 7 = .ok (.iload_n 0, 1) := by decide +kernel
theorem d4_8 : decode prog_18_method_4_code 8 = .ok (.aload_n 1, 1) := by decide +kernel
theorem d4_9 : decode prog_18_method_4_code 9 = .ok (.invokevirtual 62, 3) := by decide +kernel
theorem d4_12 : decode prog_18_method_4_code 12 = .ok (.if_icmp .le 7, 3) := by decide +kernel
theorem d4_15 : decode prog_18_method_4_code 15 = .ok (.iconst 1, 1) := by decide +kernel
theorem d4_16 : decode prog_18_method_4_code 16 = .ok (.goto 20, 3) := by decide +kernel
theorem d4_19 : decode prog_18_method_4_code 19 = .ok (.iconst 0, 1) := by decide +kernel
theorem d4_20 : decode prog_18_method_4_code 20 = .ok (.goto 16, 3) := by decide +kernel
def Q_rm4 (Z : State) (p0 : Int32) (o1 : Addr) (w2_contested : Int32) (w3_value : Int32) (h0 : Heap) (n0 : Nat) (v : Option Value) (h : Heap) (L : List Loc) : Prop := v = some (.int ((if (w2_contested &&& 1) = (0 : Int32) then (if p0 < w3_value then (0 : Int32) else (1 : Int32)) else (if w3_value < p0 then (1 : Int32) else (0 : Int32))) &&& 1)) ∧ Fr n0 L ∧ h = h0
theorem pn_4 : plainName "com/example/critline/critline/engine/PoolEngine" = true := by first | (simp [plainName, overriddenIn]; done) | decide +kernel
theorem ef_4 (m : MethodId) (x0 : Int32) (x1 : Addr) : entryFrame m #[(.int x0), (.ref x1)] 2 = mkF m 0 #[.val (.int x0), .val (.ref x1)] [] := by first | (simp [entryFrame, mkF, argsToLocals, Value.category]; done) | rfl
theorem d4_36 : decode prog_18_method_4_code 36 = .ok (.ireturn, 1) := by decide +kernel
set_option maxRecDepth 65536 in
set_option maxHeartbeats 40000000 in
theorem rm4 (l : Launch) (Z : State) (a0 : Array Value) (hw : ∀ d ∈ tables_1, d.before a0 Z = true) (ws : List Jvm.Cond) (p0 : Int32) (o1 : Addr) (w2_contested : Int32) (w3_value : Int32) (h0 : Heap) (n0 : Nat) (Z0 : n0 ≤ h0.size) (F_contested_o1 : Fld Z h0 o1 "com/example/critline/critline/model/PoolTarget" "contested" "Z" (.int w2_contested)) (E_o1 : Exa Z h0 o1 "com/example/critline/critline/model/PoolTarget") (F_value_o1 : Fld Z h0 o1 "com/example/critline/critline/model/PoolTarget" "value" "I" (.int w3_value)) :
    MetFree l (⟨"com/example/critline/critline/engine/PoolEngine", "succeeds", "(ILcom/example/critline/critline/model/PoolTarget;)Z"⟩ : MethodName) (head1 (Jvm.Cond.code (⟨"com/example/critline/critline/engine/PoolEngine", "succeeds", "(ILcom/example/critline/critline/model/PoolTarget;)Z"⟩ : MethodName) prog_18_method_4_code 2 (some .boolean) :: ws) ({ frames := 1, cells := 0, slots := 0, locals := 13 } : Room)) (fun a U => a = #[(.int p0), (.ref o1)] ∧ Z.Warmed39 U.vm ∧ U.heap = h0) (fun _ _ _ _ _ => True) (fun _ U o U' => ∃ v L, o = .returned v ∧ Q_rm4 Z p0 o1 w2_contested w3_value h0 n0 v U'.heap L ∧ FrameEnd U o U' L ({ frames := 1, cells := 0, slots := 0, locals := 13 } : Room).cells ({ frames := 1, cells := 0, slots := 0, locals := 13 } : Room).slots) := by
  refine MetFree.of_bodySF (plainFor_of_name pn_4) hisR ?_
  intro p e s m args below meth c s₁ Bd hml0 hP hK
  obtain ⟨rfl, hZ, hh⟩ := hP
  have hx := Bd.exec
  have hby := Bd.bytes
  have hml : c.maxLocals = 2 := hml0
  have hown : s.vm.findClass "com/example/critline/critline/engine/PoolEngine" = some m.cls := findClass_of_methodNamed Bd.named
  have hnm := (name_of_methodNamed Bd.named Bd.method).1
  have X0 : Stand p l e ({ frames := 1, cells := 0, slots := 0, locals := 13 } : Room) s m #[(.int p0), (.ref o1)] below meth c s₁ [] 0 0 := Stand.of_body Bd
  have e0 : s₁.heap = h0 := by rw [← hh, Bd.state]; rfl
  have N0 := Fr.nil n0
  have Kp0 : Keep h0 h0 [] := Keep.refl _ _
  have K0 : Steps p.tables e below (s₁.setTop (entryFrame m #[(.int p0), (.ref o1)] 2)) (s₁.setTop (mkF m 0 #[.val (.int p0), .val (.ref o1)] [])) := castTop (ef_4 m p0 o1) (Steps.refl _)
  have K1 : Steps p.tables e below _ (s₁.setTop (mkF m 1 #[.val (.int p0), .val (.ref o1)] [(.ref o1)])) := K0.trans (by
    show Steps p.tables e below (s₁.setTop (mkF m 0 #[.val (.int p0), .val (.ref o1)] [])) _
    refine XS.aloadN X0.here hx rfl (hb hby d4_0) rfl rfl ?_
    show Steps p.tables e below (s₁.setTop (mkF m 1 #[.val (.int p0), .val (.ref o1)] [(.ref o1)])) _
    exact Steps.refl _)
  obtain ⟨cq2, kq2, q2a, q2b, q2c⟩ := isOf hZ e0 E_o1
  obtain ⟨_, _, ⟨T2, L2, k2, n2⟩, -, X2, ⟨Lc2, hQ2, l2, y2, z2⟩, st2⟩ := X0.virtualBack hx (y := (⟨"com/example/critline/critline/model/PoolTarget", "contested", "()Z"⟩ : MethodName)) (z := (⟨"com/example/critline/critline/model/PoolTarget", "contested", "()Z"⟩ : MethodName)) hown (mvT hZ (hw _ (List.mem_of_getElem? (i := 22) rfl))) (mvT hZ (hw _ (List.mem_of_getElem? (i := 23) rfl))) (notFace_of_selects (args := #[]) (mvT hZ (hw _ (List.mem_of_getElem? (i := 25) rfl)))) (mvT hZ (hw _ (List.mem_of_getElem? (i := 25) rfl))) (mvT hZ (hw _ (List.mem_of_getElem? (i := 24) rfl))) (by decide) (backOf (W := 0) (rm5 l Z a0 hw [] o1 w2_contested h0 n0 Z0 F_contested_o1) hZ (hw _ (List.mem_of_getElem? (i := 26) rfl)) (hw _ (List.mem_of_getElem? (i := 2) rfl)) (by decide) (by decide)) q2a q2c (g := (mkF m 1 #[.val (.int p0), .val (.ref o1)] [(.ref o1)])) rfl (by rw [hml]; rfl) K1 (argsL := []) (rest := []) (lenOf pd_1 rfl) rfl (by show 2 * 0 + _ ≤ _; exact Nat.le_of_eq rfl) (hb hby d4_1) (fun _ _ => ⟨rfl, e0, (by decide : 0 + 0 ≤ _), (by decide : 0 + 0 ≤ _)⟩)
  dsimp only [Pt.U, Pt.locs, Pt.cells, Pt.slots] at X2 l2 y2 z2 st2 hQ2
  subst l2 y2 z2
  obtain ⟨rfl, N2, eh2⟩ := hQ2
  have N2' := Fr.app N0 N2
  have K3 : Steps p.tables e below _ (T2.setTop (mkF m 4 #[.val (.int p0), .val (.ref o1)] [(.int (w2_contested &&& 1))])) := st2
  obtain ⟨T4, L4, v4_0, X4, e4, N4, hv4_0, S4⟩ : ∃ (T4 : State) (L4 : List Loc) (v4_0 : Int32), Stand p l e ({ frames := 1, cells := 0, slots := 0, locals := 13 } : Room) s m #[(.int p0), (.ref o1)] below meth c T4 L4 0 0 ∧ T4.heap = h0 ∧ Fr n0 L4 ∧ (if (w2_contested &&& 1) = (0 : Int32) then (if p0 < w3_value then (0 : Int32) else (1 : Int32)) else (if w3_value < p0 then (1 : Int32) else (0 : Int32))) = v4_0 ∧ Steps p.tables e below (T2.setTop (mkF m 4 #[.val (.int p0), .val (.ref o1)] [(.int (w2_contested &&& 1))])) (T4.setTop (mkF m 36 #[.val (.int p0), .val (.ref o1)] [(.int v4_0)])) := by
    have R4 : Steps p.tables e below (T2.setTop (mkF m 4 #[.val (.int p0), .val (.ref o1)] [(.int (w2_contested &&& 1))])) (T2.setTop (mkF m 4 #[.val (.int p0), .val (.ref o1)] [(.int (w2_contested &&& 1))])) := Steps.refl _
    by_cases hc4 : (w2_contested &&& 1) = (0 : Int32)
    · have K5 : Steps p.tables e below _ (T2.setTop (mkF m 25 #[.val (.int p0), .val (.ref o1)] [(.ref o1), (.int p0)])) := R4.trans (by
        show Steps p.tables e below (T2.setTop (mkF m 4 #[.val (.int p0), .val (.ref o1)] [(.int (w2_contested &&& 1))])) _
        refine XS.ifYes X2.here hx rfl (pc0 := 4) (pc' := 23) rfl (hb hby d4_4) rfl ((if0 _ _).trans (teq hc4).1) (by decide) (by decide) ?_
        show Steps p.tables e below (T2.setTop (mkF m 23 #[.val (.int p0), .val (.ref o1)] [])) _
        refine XS.iloadN X2.here hx rfl (hb hby d4_23) rfl ?_
        show Steps p.tables e below (T2.setTop (mkF m 24 #[.val (.int p0), .val (.ref o1)] [(.int p0)])) _
        refine XS.aloadN X2.here hx rfl (hb hby d4_24) rfl rfl ?_
        show Steps p.tables e below (T2.setTop (mkF m 25 #[.val (.int p0), .val (.ref o1)] [(.ref o1), (.int p0)])) _
        exact Steps.refl _)
      obtain ⟨cq6, kq6, q6a, q6b, q6c⟩ := isOf hZ eh2 E_o1
      obtain ⟨_, _, ⟨T6, L6, k6, n6⟩, -, X6, ⟨Lc6, hQ6, l6, y6, z6⟩, st6⟩ := X2.virtualBack hx (y := (⟨"com/example/critline/critline/model/PoolTarget", "value", "()I"⟩ : MethodName)) (z := (⟨"com/example/critline/critline/model/PoolTarget", "value", "()I"⟩ : MethodName)) hown (mvT hZ (hw _ (List.mem_of_getElem? (i := 27) rfl))) (mvT hZ (hw _ (List.mem_of_getElem? (i := 28) rfl))) (notFace_of_selects (args := #[]) (mvT hZ (hw _ (List.mem_of_getElem? (i := 30) rfl)))) (mvT hZ (hw _ (List.mem_of_getElem? (i := 30) rfl))) (mvT hZ (hw _ (List.mem_of_getElem? (i := 29) rfl))) (by decide) (backOf (W := 1) (rm6 l Z a0 hw [] o1 w3_value h0 n0 Z0 F_value_o1) hZ (hw _ (List.mem_of_getElem? (i := 31) rfl)) (hw _ (List.mem_of_getElem? (i := 2) rfl)) (by decide) (by decide)) q6a q6c (g := (mkF m 25 #[.val (.int p0), .val (.ref o1)] [(.ref o1), (.int p0)])) rfl (by rw [hml]; rfl) K5 (argsL := []) (rest := [(.int p0)]) (lenOf pd_2 rfl) rfl (by show 2 * 0 + _ ≤ _; exact Nat.le_of_eq rfl) (hb hby d4_25) (fun _ _ => ⟨rfl, eh2, (by decide : 0 + 0 ≤ _), (by decide : 0 + 0 ≤ _)⟩)
      dsimp only [Pt.U, Pt.locs, Pt.cells, Pt.slots] at X6 l6 y6 z6 st6 hQ6
      subst l6 y6 z6
      obtain ⟨rfl, N6, eh6⟩ := hQ6
      have N6' := Fr.app N2' N6
      have K7 : Steps p.tables e below _ (T6.setTop (mkF m 28 #[.val (.int p0), .val (.ref o1)] [(.int w3_value), (.int p0)])) := st6
      by_cases hc28 : p0 < w3_value
      · have K8 : Steps p.tables e below _ (T6.setTop (mkF m 36 #[.val (.int p0), .val (.ref o1)] [(.int (0 : Int32))])) := K7.trans (by
          show Steps p.tables e below (T6.setTop (mkF m 28 #[.val (.int p0), .val (.ref o1)] [(.int w3_value), (.int p0)])) _
          refine XS.icmpYes X6.here hx rfl (pc0 := 28) (pc' := 35) rfl (hb hby d4_28) rfl (tlt hc28).1 (by decide) (by decide) ?_
          show Steps p.tables e below (T6.setTop (mkF m 35 #[.val (.int p0), .val (.ref o1)] [])) _
          refine XS.iconst X6.here hx rfl (hb hby d4_35) ?_
          show Steps p.tables e below (T6.setTop (mkF m 36 #[.val (.int p0), .val (.ref o1)] [(.int (0 : Int32))])) _
          exact Steps.refl _)
        exact ⟨T6, _, (0 : Int32), X6, eh6, N6', (by rw [if_pos hc4, if_pos hc28]), K8⟩
      · have K9 : Steps p.tables e below _ (T6.setTop (mkF m 36 #[.val (.int p0), .val (.ref o1)] [(.int (1 : Int32))])) := K7.trans (by
          show Steps p.tables e below (T6.setTop (mkF m 28 #[.val (.int p0), .val (.ref o1)] [(.int w3_value), (.int p0)])) _
          refine XS.icmpNo X6.here hx rfl (hb hby d4_28) rfl (flt hc28).1 ?_
          show Steps p.tables e below (T6.setTop (mkF m 31 #[.val (.int p0), .val (.ref o1)] [])) _
          refine XS.iconst X6.here hx rfl (hb hby d4_31) ?_
          show Steps p.tables e below (T6.setTop (mkF m 32 #[.val (.int p0), .val (.ref o1)] [(.int (1 : Int32))])) _
          refine XS.goto X6.here hx rfl (pc0 := 32) (pc' := 36) rfl (hb hby d4_32) (by decide) (by decide) ?_
          show Steps p.tables e below (T6.setTop (mkF m 36 #[.val (.int p0), .val (.ref o1)] [(.int (1 : Int32))])) _
          exact Steps.refl _)
        exact ⟨T6, _, (1 : Int32), X6, eh6, N6', (by rw [if_pos hc4, if_neg hc28]), K9⟩
    · have K10 : Steps p.tables e below _ (T2.setTop (mkF m 9 #[.val (.int p0), .val (.ref o1)] [(.ref o1), (.int p0)])) := R4.trans (by
        show Steps p.tables e below (T2.setTop (mkF m 4 #[.val (.int p0), .val (.ref o1)] [(.int (w2_contested &&& 1))])) _
        refine XS.ifNo X2.here hx rfl (hb hby d4_4) rfl ((if0 _ _).trans (feq hc4).1) ?_
        show Steps p.tables e below (T2.setTop (mkF m 7 #[.val (.int p0), .val (.ref o1)] [])) _
        refine XS.iloadN X2.here hx rfl (hb hby d4_7) rfl ?_
        show Steps p.tables e below (T2.setTop (mkF m 8 #[.val (.int p0), .val (.ref o1)] [(.int p0)])) _
        refine XS.aloadN X2.here hx rfl (hb hby d4_8) rfl rfl ?_
        show Steps p.tables e below (T2.setTop (mkF m 9 #[.val (.int p0), .val (.ref o1)] [(.ref o1), (.int p0)])) _
        exact Steps.refl _)
      obtain ⟨cq11, kq11, q11a, q11b, q11c⟩ := isOf hZ eh2 E_o1
      obtain ⟨_, _, ⟨T11, L11, k11, n11⟩, -, X11, ⟨Lc11, hQ11, l11, y11, z11⟩, st11⟩ := X2.virtualBack hx (y := (⟨"com/example/critline/critline/model/PoolTarget", "value", "()I"⟩ : MethodName)) (z := (⟨"com/example/critline/critline/model/PoolTarget", "value", "()I"⟩ : MethodName)) hown (mvT hZ (hw _ (List.mem_of_getElem? (i := 27) rfl))) (mvT hZ (hw _ (List.mem_of_getElem? (i := 28) rfl))) (notFace_of_selects (args := #[]) (mvT hZ (hw _ (List.mem_of_getElem? (i := 30) rfl)))) (mvT hZ (hw _ (List.mem_of_getElem? (i := 30) rfl))) (mvT hZ (hw _ (List.mem_of_getElem? (i := 29) rfl))) (by decide) (backOf (W := 1) (rm6 l Z a0 hw [] o1 w3_value h0 n0 Z0 F_value_o1) hZ (hw _ (List.mem_of_getElem? (i := 31) rfl)) (hw _ (List.mem_of_getElem? (i := 2) rfl)) (by decide) (by decide)) q11a q11c (g := (mkF m 9 #[.val (.int p0), .val (.ref o1)] [(.ref o1), (.int p0)])) rfl (by rw [hml]; rfl) K10 (argsL := []) (rest := [(.int p0)]) (lenOf pd_2 rfl) rfl (by show 2 * 0 + _ ≤ _; exact Nat.le_of_eq rfl) (hb hby d4_9) (fun _ _ => ⟨rfl, eh2, (by decide : 0 + 0 ≤ _), (by decide : 0 + 0 ≤ _)⟩)
      dsimp only [Pt.U, Pt.locs, Pt.cells, Pt.slots] at X11 l11 y11 z11 st11 hQ11
      subst l11 y11 z11
      obtain ⟨rfl, N11, eh11⟩ := hQ11
      have N11' := Fr.app N2' N11
      have K12 : Steps p.tables e below _ (T11.setTop (mkF m 12 #[.val (.int p0), .val (.ref o1)] [(.int w3_value), (.int p0)])) := st11
      by_cases hc12 : w3_value < p0
      · have K13 : Steps p.tables e below _ (T11.setTop (mkF m 36 #[.val (.int p0), .val (.ref o1)] [(.int (1 : Int32))])) := K12.trans (by
          show Steps p.tables e below (T11.setTop (mkF m 12 #[.val (.int p0), .val (.ref o1)] [(.int w3_value), (.int p0)])) _
          refine XS.icmpNo X11.here hx rfl (hb hby d4_12) rfl (tlt hc12).2.2.2 ?_
          show Steps p.tables e below (T11.setTop (mkF m 15 #[.val (.int p0), .val (.ref o1)] [])) _
          refine XS.iconst X11.here hx rfl (hb hby d4_15) ?_
          show Steps p.tables e below (T11.setTop (mkF m 16 #[.val (.int p0), .val (.ref o1)] [(.int (1 : Int32))])) _
          refine XS.goto X11.here hx rfl (pc0 := 16) (pc' := 36) rfl (hb hby d4_16) (by decide) (by decide) ?_
          show Steps p.tables e below (T11.setTop (mkF m 36 #[.val (.int p0), .val (.ref o1)] [(.int (1 : Int32))])) _
          exact Steps.refl _)
        exact ⟨T11, _, (1 : Int32), X11, eh11, N11', (by rw [if_neg hc4, if_pos hc12]), K13⟩
      · have K14 : Steps p.tables e below _ (T11.setTop (mkF m 36 #[.val (.int p0), .val (.ref o1)] [(.int (0 : Int32))])) := K12.trans (by
          show Steps p.tables e below (T11.setTop (mkF m 12 #[.val (.int p0), .val (.ref o1)] [(.int w3_value), (.int p0)])) _
          refine XS.icmpYes X11.here hx rfl (pc0 := 12) (pc' := 19) rfl (hb hby d4_12) rfl (flt hc12).2.2.2 (by decide) (by decide) ?_
          show Steps p.tables e below (T11.setTop (mkF m 19 #[.val (.int p0), .val (.ref o1)] [])) _
          refine XS.iconst X11.here hx rfl (hb hby d4_19) ?_
          show Steps p.tables e below (T11.setTop (mkF m 20 #[.val (.int p0), .val (.ref o1)] [(.int (0 : Int32))])) _
          refine XS.goto X11.here hx rfl (pc0 := 20) (pc' := 36) rfl (hb hby d4_20) (by decide) (by decide) ?_
          show Steps p.tables e below (T11.setTop (mkF m 36 #[.val (.int p0), .val (.ref o1)] [(.int (0 : Int32))])) _
          exact Steps.refl _)
        exact ⟨T11, _, (0 : Int32), X11, eh11, N11', (by rw [if_neg hc4, if_neg hc12]), K14⟩
  have K15 := K3.trans S4
  subst hv4_0
  obtain ⟨fs, hr, hrun, hended, hW, hsame⟩ := X4.leave (v := some (.int ((if (w2_contested &&& 1) = (0 : Int32) then (if p0 < w3_value then (0 : Int32) else (1 : Int32)) else (if w3_value < p0 then (1 : Int32) else (0 : Int32))) &&& 1))) (fun h => by rw [Bd.returns] at h; cases h)
  refine ⟨_, _, K15.trans (retN X4 hx (t := .boolean) Bd.returns (by simp) (hb hby d4_36) hr), hrun, hended, _, _, rfl, ?_, ⟨_, rfl⟩, hW, hsame.mono (by decide) (by first | decide | omega)⟩
  show Q_rm4 Z p0 o1 w2_contested w3_value h0 n0 _ T4.heap _
  rw [e4]
  exact ⟨rfl, N4, rfl⟩
theorem pd_3 : parseMethodDescriptor "(IZ)V" = some ⟨[.int, .boolean], none⟩ := by decide +kernel
theorem pd_4 : parseMethodDescriptor "(ILcom/example/critline/critline/model/PoolTarget;)Z" = some ⟨[.int, (.object "com/example/critline/critline/model/PoolTarget")], some .boolean⟩ := by decide +kernel
def Q_rm0 (n0 : Nat) (v : Option Value) (L : List Loc) : Prop := v = some (.int 1) ∧ Fr n0 L
theorem pn_0 : plainName "com/example/critline/critline/engine/PoolEngineSucceedsPinLaw" = true := by first | (simp [plainName, overriddenIn]; done) | decide +kernel
theorem ef_0 (m : MethodId) (x0 : Int32) (x1 : Int32) (x2 : Int32) : entryFrame m #[(.int x0), (.int x1), (.int x2)] maxLocals = mkF m 0 #[.val (.int x0), .val (.int x1), .val (.int x2), .unset, .unset, .unset, .unset, .unset, .unset, .unset, .unset] [] := by first | (simp [entryFrame, mkF, argsToLocals, Value.category, maxLocals]; done) | rfl
set_option maxRecDepth 65536 in
set_option maxHeartbeats 4000000 in
theorem own_law_0 (p0 : Int32) (p1 : Int32) (p2 : Int32) (v2_0 : Int32) (r16 : Int32) (v19_0 : Int64) (v24_0 : Int32) (v29_0 : Int32) (hv2_0 : (if (p2 &&& (1 : Int32)) = (0 : Int32) then (0 : Int32) else (1 : Int32)) = v2_0) (hr16 : ((if ((v2_0 &&& 1) &&& 1) = (0 : Int32) then (if p0 < p1 then (0 : Int32) else (1 : Int32)) else (if p1 < p0 then (1 : Int32) else (0 : Int32))) &&& 1) = r16) (hv19_0 : (if v2_0 = (0 : Int32) then (0 : Int64) else (1 : Int64)) = v19_0) (hv24_0 : (if ((p0.toInt64) - (p1.toInt64)) < v19_0 then (0 : Int32) else (1 : Int32)) = v24_0) (hv29_0 : (if r16 = v24_0 then (1 : Int32) else (0 : Int32)) = v29_0) : (v29_0 &&& 1) = (1 : Int32) := by
  have hm : (p0.toInt64 - p1.toInt64).toInt = p0.toInt - p1.toInt := by
    have h1 := Jvm.RoadKit.c_lsub p0.toInt64 p1.toInt64
    have h2 := Jvm.RoadKit.c_i2l p0
    have h3 := Jvm.RoadKit.c_i2l p1
    have h4 := Jvm.RoadKit.rng32 p0
    have h5 := Jvm.RoadKit.rng32 p1
    have h6 := Jvm.RoadKit.rng64 (p0.toInt64 - p1.toInt64)
    omega
  by_cases h : (p2 &&& (1 : Int32)) = (0 : Int32)
  · rw [if_pos h] at hv2_0
    have e19 : v19_0 = (0 : Int64) := by rw [← hv19_0, ← hv2_0]; rfl
    by_cases hlt : p0 < p1
    · have c : (p0.toInt64 - p1.toInt64) < v19_0 := by rw [e19, own_lt64, hm]; rw [own_lt32] at hlt; have : (0 : Int64).toInt = 0 := rfl; omega
      rw [if_pos hlt] at hr16
      rw [if_pos c] at hv24_0
      by_cases h2 : p1 < p0 <;> simp only [h2, if_true, if_false] at hr16 <;> subst hv2_0 hr16 hv24_0 hv29_0 <;> decide
    · have c : ¬ (p0.toInt64 - p1.toInt64) < v19_0 := by rw [e19, own_lt64, hm]; rw [own_lt32] at hlt; have : (0 : Int64).toInt = 0 := rfl; omega
      rw [if_neg hlt] at hr16
      rw [if_neg c] at hv24_0
      by_cases h2 : p1 < p0 <;> simp only [h2, if_true, if_false] at hr16 <;> subst hv2_0 hr16 hv24_0 hv29_0 <;> decide
  · rw [if_neg h] at hv2_0
    have e19 : v19_0 = (1 : Int64) := by rw [← hv19_0, ← hv2_0]; rfl
    by_cases hlt : p1 < p0
    · have c : ¬ (p0.toInt64 - p1.toInt64) < v19_0 := by rw [e19, own_lt64, hm]; rw [own_lt32] at hlt; have : (1 : Int64).toInt = 1 := rfl; omega
      rw [if_pos hlt] at hr16
      rw [if_neg c] at hv24_0
      by_cases h2 : p0 < p1 <;> simp only [h2, if_true, if_false] at hr16 <;> subst hv2_0 hr16 hv24_0 hv29_0 <;> decide
    · have c : (p0.toInt64 - p1.toInt64) < v19_0 := by rw [e19, own_lt64, hm]; rw [own_lt32] at hlt; have : (1 : Int64).toInt = 1 := rfl; omega
      rw [if_neg hlt] at hr16
      rw [if_pos c] at hv24_0
      by_cases h2 : p0 < p1 <;> simp only [h2, if_true, if_false] at hr16 <;> subst hv2_0 hr16 hv24_0 hv29_0 <;> decide
set_option maxRecDepth 65536 in
set_option maxHeartbeats 40000000 in
theorem rm0 (l : Launch) (Z : State) (a0 : Array Value) (hw : ∀ d ∈ tables_1, d.before a0 Z = true) (ws : List Jvm.Cond) (p0 : Int32) (p1 : Int32) (p2 : Int32) (h0 : Heap) (n0 : Nat) (Z0 : n0 ≤ h0.size) :
    MetFree l x (head1 (Jvm.Cond.code x code maxLocals ret :: ws) room_1) (fun a U => a = #[(.int p0), (.int p1), (.int p2)] ∧ Z.Warmed39 U.vm ∧ U.heap = h0) (fun _ _ _ _ _ => True) (fun _ U o U' => ∃ v L, o = .returned v ∧ Q_rm0 n0 v L ∧ FrameEnd U o U' L 1 2) := by
  refine MetFree.of_bodySF (plainFor_of_name pn_0) hisR ?_
  intro p e s m args below meth c s₁ Bd hml0 hP hK
  obtain ⟨rfl, hZ, hh⟩ := hP
  have hx := Bd.exec
  have hby := Bd.bytes
  have hml : c.maxLocals = 11 := hml0
  have hown : s.vm.findClass "com/example/critline/critline/engine/PoolEngineSucceedsPinLaw" = some m.cls := findClass_of_methodNamed Bd.named
  have hnm := (name_of_methodNamed Bd.named Bd.method).1
  have X0 : Stand p l e room_1 s m #[(.int p0), (.int p1), (.int p2)] below meth c s₁ [] 0 0 := Stand.of_body Bd
  have e0 : s₁.heap = h0 := by rw [← hh, Bd.state]; rfl
  have N0 := Fr.nil n0
  have K0 : Steps p.tables e below (s₁.setTop (entryFrame m #[(.int p0), (.int p1), (.int p2)] maxLocals)) (s₁.setTop (mkF m 0 #[.val (.int p0), .val (.int p1), .val (.int p2), .unset, .unset, .unset, .unset, .unset, .unset, .unset, .unset] [])) := castTop (ef_0 m p0 p1 p2) (Steps.refl _)
  have K1 : Steps p.tables e below _ (s₁.setTop (mkF m 3 #[.val (.int p0), .val (.int p1), .val (.int p2), .unset, .unset, .unset, .unset, .unset, .unset, .unset, .unset] [(.int (p2 &&& (1 : Int32)))])) := K0.trans (by
    show Steps p.tables e below (s₁.setTop (mkF m 0 #[.val (.int p0), .val (.int p1), .val (.int p2), .unset, .unset, .unset, .unset, .unset, .unset, .unset, .unset] [])) _
    refine XS.iloadN X0.here hx rfl (hb hby at_0) rfl ?_
    show Steps p.tables e below (s₁.setTop (mkF m 1 #[.val (.int p0), .val (.int p1), .val (.int p2), .unset, .unset, .unset, .unset, .unset, .unset, .unset, .unset] [(.int p2)])) _
    refine XS.iconst X0.here hx rfl (hb hby at_1) ?_
    show Steps p.tables e below (s₁.setTop (mkF m 2 #[.val (.int p0), .val (.int p1), .val (.int p2), .unset, .unset, .unset, .unset, .unset, .unset, .unset, .unset] [(.int (1 : Int32)), (.int p2)])) _
    refine XS.iand X0.here hx rfl (hb hby at_2) rfl ?_
    show Steps p.tables e below (s₁.setTop (mkF m 3 #[.val (.int p0), .val (.int p1), .val (.int p2), .unset, .unset, .unset, .unset, .unset, .unset, .unset, .unset] [(.int (p2 &&& (1 : Int32)))])) _
    exact Steps.refl _)
  obtain ⟨v2_0, hv2_0, S2⟩ : ∃ (v2_0 : Int32), (if (p2 &&& (1 : Int32)) = (0 : Int32) then (0 : Int32) else (1 : Int32)) = v2_0 ∧ Steps p.tables e below (s₁.setTop (mkF m 3 #[.val (.int p0), .val (.int p1), .val (.int p2), .unset, .unset, .unset, .unset, .unset, .unset, .unset, .unset] [(.int (p2 &&& (1 : Int32)))])) (s₁.setTop (mkF m 11 #[.val (.int p0), .val (.int p1), .val (.int p2), .unset, .unset, .unset, .unset, .unset, .unset, .unset, .unset] [(.int v2_0)])) := by
    have R2 : Steps p.tables e below (s₁.setTop (mkF m 3 #[.val (.int p0), .val (.int p1), .val (.int p2), .unset, .unset, .unset, .unset, .unset, .unset, .unset, .unset] [(.int (p2 &&& (1 : Int32)))])) (s₁.setTop (mkF m 3 #[.val (.int p0), .val (.int p1), .val (.int p2), .unset, .unset, .unset, .unset, .unset, .unset, .unset, .unset] [(.int (p2 &&& (1 : Int32)))])) := Steps.refl _
    by_cases hc3 : (p2 &&& (1 : Int32)) = (0 : Int32)
    · have K3 : Steps p.tables e below _ (s₁.setTop (mkF m 11 #[.val (.int p0), .val (.int p1), .val (.int p2), .unset, .unset, .unset, .unset, .unset, .unset, .unset, .unset] [(.int (0 : Int32))])) := R2.trans (by
        show Steps p.tables e below (s₁.setTop (mkF m 3 #[.val (.int p0), .val (.int p1), .val (.int p2), .unset, .unset, .unset, .unset, .unset, .unset, .unset, .unset] [(.int (p2 &&& (1 : Int32)))])) _
        refine XS.ifYes X0.here hx rfl (pc0 := 3) (pc' := 10) rfl (hb hby at_3) rfl ((if0 _ _).trans (teq hc3).1) (by decide) (by decide) ?_
        show Steps p.tables e below (s₁.setTop (mkF m 10 #[.val (.int p0), .val (.int p1), .val (.int p2), .unset, .unset, .unset, .unset, .unset, .unset, .unset, .unset] [])) _
        refine XS.iconst X0.here hx rfl (hb hby at_10) ?_
        show Steps p.tables e below (s₁.setTop (mkF m 11 #[.val (.int p0), .val (.int p1), .val (.int p2), .unset, .unset, .unset, .unset, .unset, .unset, .unset, .unset] [(.int (0 : Int32))])) _
        exact Steps.refl _)
      exact ⟨(0 : Int32), (by rw [if_pos hc3]), K3⟩
    · have K4 : Steps p.tables e below _ (s₁.setTop (mkF m 11 #[.val (.int p0), .val (.int p1), .val (.int p2), .unset, .unset, .unset, .unset, .unset, .unset, .unset, .unset] [(.int (1 : Int32))])) := R2.trans (by
        show Steps p.tables e below (s₁.setTop (mkF m 3 #[.val (.int p0), .val (.int p1), .val (.int p2), .unset, .unset, .unset, .unset, .unset, .unset, .unset, .unset] [(.int (p2 &&& (1 : Int32)))])) _
        refine XS.ifNo X0.here hx rfl (hb hby at_3) rfl ((if0 _ _).trans (feq hc3).1) ?_
        show Steps p.tables e below (s₁.setTop (mkF m 6 #[.val (.int p0), .val (.int p1), .val (.int p2), .unset, .unset, .unset, .unset, .unset, .unset, .unset, .unset] [])) _
        refine XS.iconst X0.here hx rfl (hb hby at_6) ?_
        show Steps p.tables e below (s₁.setTop (mkF m 7 #[.val (.int p0), .val (.int p1), .val (.int p2), .unset, .unset, .unset, .unset, .unset, .unset, .unset, .unset] [(.int (1 : Int32))])) _
        refine XS.goto X0.here hx rfl (pc0 := 7) (pc' := 11) rfl (hb hby at_7) (by decide) (by decide) ?_
        show Steps p.tables e below (s₁.setTop (mkF m 11 #[.val (.int p0), .val (.int p1), .val (.int p2), .unset, .unset, .unset, .unset, .unset, .unset, .unset, .unset] [(.int (1 : Int32))])) _
        exact Steps.refl _)
      exact ⟨(1 : Int32), (by rw [if_neg hc3]), K4⟩
  have K5 := K1.trans S2
  have K6 : Steps p.tables e below _ (s₁.setTop (mkF m 12 #[.val (.int p0), .val (.int p1), .val (.int p2), .val (.int v2_0), .unset, .unset, .unset, .unset, .unset, .unset, .unset] [])) := K5.trans (by
    show Steps p.tables e below (s₁.setTop (mkF m 11 #[.val (.int p0), .val (.int p1), .val (.int p2), .unset, .unset, .unset, .unset, .unset, .unset, .unset, .unset] [(.int v2_0)])) _
    refine XS.istoreN X0.here hx rfl (hb hby at_11) rfl (l' := #[.val (.int p0), .val (.int p1), .val (.int p2), .val (.int v2_0), .unset, .unset, .unset, .unset, .unset, .unset, .unset]) rfl ?_
    show Steps p.tables e below (s₁.setTop (mkF m 12 #[.val (.int p0), .val (.int p1), .val (.int p2), .val (.int v2_0), .unset, .unset, .unset, .unset, .unset, .unset, .unset] [])) _
    exact Steps.refl _)
  obtain ⟨T7, h7, X7, e7, E7, A7, D7, -, st7⟩ := newO X0 hx hZ hown (hw _ (List.mem_of_getElem? (i := 0) rfl)) (hw _ (List.mem_of_getElem? (i := 1) rfl)) (hw _ (List.mem_of_getElem? (i := 2) rfl)) e0 (g := (mkF m 12 #[.val (.int p0), .val (.int p1), .val (.int p2), .val (.int v2_0), .unset, .unset, .unset, .unset, .unset, .unset, .unset] [])) rfl (hb hby at_12) (by decide) (by decide)
  obtain ⟨b7, g7⟩ : ∃ z, z = h0.size := ⟨_, rfl⟩
  rw [← g7] at A7 D7 st7
  have ge_b7 : n0 ≤ b7 := Nat.le_trans Z0 (Nat.le_of_eq g7.symm)
  have K8 : Steps p.tables e below _ (T7.setTop (mkF m 15 #[.val (.int p0), .val (.int p1), .val (.int p2), .val (.int v2_0), .unset, .unset, .unset, .unset, .unset, .unset, .unset] [(.ref b7)])) := K6.trans (st7 _ (Steps.refl _))
  have F7_value : Fld Z h7 b7 "com/example/critline/critline/model/PoolTarget" "value" "I" (.int (0 : Int32)) := D7 (Or.inr (hw _ (List.mem_of_getElem? (i := 15) rfl))) (ty := .int) (by decide)
  have F7_contested : Fld Z h7 b7 "com/example/critline/critline/model/PoolTarget" "contested" "Z" (.int (0 : Int32)) := D7 (Or.inr (hw _ (List.mem_of_getElem? (i := 17) rfl))) (ty := .boolean) (by decide)
  have K9 : Steps p.tables e below _ (T7.setTop (mkF m 18 #[.val (.int p0), .val (.int p1), .val (.int p2), .val (.int v2_0), .unset, .unset, .unset, .unset, .unset, .unset, .unset] [(.int v2_0), (.int p1), (.ref b7), (.ref b7)])) := K8.trans (by
    show Steps p.tables e below (T7.setTop (mkF m 15 #[.val (.int p0), .val (.int p1), .val (.int p2), .val (.int v2_0), .unset, .unset, .unset, .unset, .unset, .unset, .unset] [(.ref b7)])) _
    refine XS.dup X7.here hx rfl (hb hby at_15) rfl rfl ?_
    show Steps p.tables e below (T7.setTop (mkF m 16 #[.val (.int p0), .val (.int p1), .val (.int p2), .val (.int v2_0), .unset, .unset, .unset, .unset, .unset, .unset, .unset] [(.ref b7), (.ref b7)])) _
    refine XS.iloadN X7.here hx rfl (hb hby at_16) rfl ?_
    show Steps p.tables e below (T7.setTop (mkF m 17 #[.val (.int p0), .val (.int p1), .val (.int p2), .val (.int v2_0), .unset, .unset, .unset, .unset, .unset, .unset, .unset] [(.int p1), (.ref b7), (.ref b7)])) _
    refine XS.iloadN X7.here hx rfl (hb hby at_17) rfl ?_
    show Steps p.tables e below (T7.setTop (mkF m 18 #[.val (.int p0), .val (.int p1), .val (.int p2), .val (.int v2_0), .unset, .unset, .unset, .unset, .unset, .unset, .unset] [(.int v2_0), (.int p1), (.ref b7), (.ref b7)])) _
    exact Steps.refl _)
  have Z_10 : n0 ≤ h7.size := (Nat.le_trans Z0 E7.1)
  obtain ⟨_, _, ⟨T11, L11, k11, n11⟩, -, X11, ⟨Lc11, hQ11, l11, y11, z11⟩, st11⟩ := X7.specialBack hx (y := (⟨"com/example/critline/critline/model/PoolTarget", "<init>", "(IZ)V"⟩ : MethodName)) rfl hown (mvT hZ (hw _ (List.mem_of_getElem? (i := 3) rfl))) (mvT hZ (hw _ (List.mem_of_getElem? (i := 4) rfl))) (mvT hZ (hw _ (List.mem_of_getElem? (i := 5) rfl))) (by decide) (backOf (W := 1) (rm1 l Z a0 hw [] b7 p1 v2_0 (.int (0 : Int32)) (.int (0 : Int32)) h7 n0 Z_10 ge_b7 A7 F7_value F7_contested) hZ (hw _ (List.mem_of_getElem? (i := 5) rfl)) (hw _ (List.mem_of_getElem? (i := 2) rfl)) (by decide) (by decide)) (g := (mkF m 18 #[.val (.int p0), .val (.int p1), .val (.int p2), .val (.int v2_0), .unset, .unset, .unset, .unset, .unset, .unset, .unset] [(.int v2_0), (.int p1), (.ref b7), (.ref b7)])) rfl (by rw [hml]; rfl) K9 (a := b7) (argsL := [(.int p1), (.int v2_0)]) (rest := [(.ref b7)]) (lenOf pd_3 rfl) rfl (by show 2 * 0 + _ ≤ _; exact Nat.le_of_eq rfl) (hb hby at_18) (fun _ _ => ⟨rfl, e7, (by decide : 1 + 0 ≤ _), (by decide : 2 + 0 ≤ _)⟩)
  dsimp only [Pt.U, Pt.locs, Pt.cells, Pt.slots] at X11 l11 y11 z11 st11 hQ11
  subst l11 y11 z11
  obtain ⟨rfl, N11, Kp11, Q11_0, Q11_1, Q11_2⟩ := hQ11
  have N11' := Fr.app N0 N11
  have K12 : Steps p.tables e below _ (T11.setTop (mkF m 21 #[.val (.int p0), .val (.int p1), .val (.int p2), .val (.int v2_0), .unset, .unset, .unset, .unset, .unset, .unset, .unset] [(.ref b7)])) := st11
  have K13 : Steps p.tables e below _ (T11.setTop (mkF m 26 #[.val (.int p0), .val (.int p1), .val (.int p2), .val (.int v2_0), .val (.ref b7), .unset, .unset, .unset, .unset, .unset, .unset] [(.ref b7), (.int p0)])) := K12.trans (by
    show Steps p.tables e below (T11.setTop (mkF m 21 #[.val (.int p0), .val (.int p1), .val (.int p2), .val (.int v2_0), .unset, .unset, .unset, .unset, .unset, .unset, .unset] [(.ref b7)])) _
    refine XS.astore X11.here hx rfl (hb hby at_21) rfl rfl (l' := #[.val (.int p0), .val (.int p1), .val (.int p2), .val (.int v2_0), .val (.ref b7), .unset, .unset, .unset, .unset, .unset, .unset]) rfl ?_
    show Steps p.tables e below (T11.setTop (mkF m 23 #[.val (.int p0), .val (.int p1), .val (.int p2), .val (.int v2_0), .val (.ref b7), .unset, .unset, .unset, .unset, .unset, .unset] [])) _
    refine XS.iloadN X11.here hx rfl (hb hby at_23) rfl ?_
    show Steps p.tables e below (T11.setTop (mkF m 24 #[.val (.int p0), .val (.int p1), .val (.int p2), .val (.int v2_0), .val (.ref b7), .unset, .unset, .unset, .unset, .unset, .unset] [(.int p0)])) _
    refine XS.aload X11.here hx rfl (hb hby at_24) rfl rfl ?_
    show Steps p.tables e below (T11.setTop (mkF m 26 #[.val (.int p0), .val (.int p1), .val (.int p2), .val (.int v2_0), .val (.ref b7), .unset, .unset, .unset, .unset, .unset, .unset] [(.ref b7), (.int p0)])) _
    exact Steps.refl _)
  have Z_14 : n0 ≤ T11.heap.size := (Nat.le_trans Z_10 Kp11.1)
  obtain ⟨_, _, ⟨T15, L15, k15, n15⟩, -, X15, ⟨Lc15, hQ15, l15, y15, z15⟩, st15⟩ := Jvm.LawKit.callS X11 hx (y := (⟨"com/example/critline/critline/engine/PoolEngine", "succeeds", "(ILcom/example/critline/critline/model/PoolTarget;)Z"⟩ : MethodName)) hown (mvT hZ (hw _ (List.mem_of_getElem? (i := 18) rfl))) (mvT hZ (hw _ (List.mem_of_getElem? (i := 19) rfl))) (mvT hZ (hw _ (List.mem_of_getElem? (i := 20) rfl))) (mvT hZ (hw _ (List.mem_of_getElem? (i := 21) rfl))) (by decide) (backOf (W := 0) (rm4 l Z a0 hw [] p0 b7 (v2_0 &&& 1) p1 T11.heap n0 Z_14 Q11_2 Q11_0 Q11_1) hZ (hw _ (List.mem_of_getElem? (i := 21) rfl)) (hw _ (List.mem_of_getElem? (i := 20) rfl)) (by decide) (by decide)) (g := (mkF m 26 #[.val (.int p0), .val (.int p1), .val (.int p2), .val (.int v2_0), .val (.ref b7), .unset, .unset, .unset, .unset, .unset, .unset] [(.ref b7), (.int p0)])) rfl (by rw [hml]; rfl) (argsL := [(.int p0), (.ref b7)]) (rest := []) (lenOf pd_4 rfl) rfl (by show 2 * 0 + _ ≤ _; exact Nat.le_of_eq rfl) (hb hby at_26) (fun _ _ => ⟨rfl, rfl, (by decide : 1 + 0 ≤ _), (by decide : 2 + 0 ≤ _)⟩)
  dsimp only [Pt.U, Pt.locs, Pt.cells, Pt.slots] at X15 l15 y15 z15 st15 hQ15
  subst l15 y15 z15
  obtain ⟨rfl, N15, eh15⟩ := hQ15
  have N15' := Fr.app N11' N15
  have K17 : Steps p.tables e below _ (T15.setTop (mkF m 29 #[.val (.int p0), .val (.int p1), .val (.int p2), .val (.int v2_0), .val (.ref b7), .unset, .unset, .unset, .unset, .unset, .unset] [(.int ((if ((v2_0 &&& 1) &&& 1) = (0 : Int32) then (if p0 < p1 then (0 : Int32) else (1 : Int32)) else (if p1 < p0 then (1 : Int32) else (0 : Int32))) &&& 1))])) := K13.trans (st15 _ (Steps.refl _))
  obtain ⟨r16, hr16⟩ : ∃ z : Int32, ((if ((v2_0 &&& 1) &&& 1) = (0 : Int32) then (if p0 < p1 then (0 : Int32) else (1 : Int32)) else (if p1 < p0 then (1 : Int32) else (0 : Int32))) &&& 1) = z := ⟨_, rfl⟩
  rw [hr16] at K17
  have K18 : Steps p.tables e below _ (T15.setTop (mkF m 39 #[.val (.int p0), .val (.int p1), .val (.int p2), .val (.int v2_0), .val (.ref b7), .val (.int r16), .val (.long ((p0.toInt64) - (p1.toInt64))), .second, .unset, .unset, .unset] [(.int v2_0)])) := K17.trans (by
    show Steps p.tables e below (T15.setTop (mkF m 29 #[.val (.int p0), .val (.int p1), .val (.int p2), .val (.int v2_0), .val (.ref b7), .unset, .unset, .unset, .unset, .unset, .unset] [(.int r16)])) _
    refine XS.istore X15.here hx rfl (hb hby at_29) rfl (l' := #[.val (.int p0), .val (.int p1), .val (.int p2), .val (.int v2_0), .val (.ref b7), .val (.int r16), .unset, .unset, .unset, .unset, .unset]) rfl ?_
    show Steps p.tables e below (T15.setTop (mkF m 31 #[.val (.int p0), .val (.int p1), .val (.int p2), .val (.int v2_0), .val (.ref b7), .val (.int r16), .unset, .unset, .unset, .unset, .unset] [])) _
    refine XS.iloadN X15.here hx rfl (hb hby at_31) rfl ?_
    show Steps p.tables e below (T15.setTop (mkF m 32 #[.val (.int p0), .val (.int p1), .val (.int p2), .val (.int v2_0), .val (.ref b7), .val (.int r16), .unset, .unset, .unset, .unset, .unset] [(.int p0)])) _
    refine XS.i2l X15.here hx rfl (hb hby at_32) rfl ?_
    show Steps p.tables e below (T15.setTop (mkF m 33 #[.val (.int p0), .val (.int p1), .val (.int p2), .val (.int v2_0), .val (.ref b7), .val (.int r16), .unset, .unset, .unset, .unset, .unset] [(.long (p0.toInt64))])) _
    refine XS.iloadN X15.here hx rfl (hb hby at_33) rfl ?_
    show Steps p.tables e below (T15.setTop (mkF m 34 #[.val (.int p0), .val (.int p1), .val (.int p2), .val (.int v2_0), .val (.ref b7), .val (.int r16), .unset, .unset, .unset, .unset, .unset] [(.int p1), (.long (p0.toInt64))])) _
    refine XS.i2l X15.here hx rfl (hb hby at_34) rfl ?_
    show Steps p.tables e below (T15.setTop (mkF m 35 #[.val (.int p0), .val (.int p1), .val (.int p2), .val (.int v2_0), .val (.ref b7), .val (.int r16), .unset, .unset, .unset, .unset, .unset] [(.long (p1.toInt64)), (.long (p0.toInt64))])) _
    refine XS.lsub X15.here hx rfl (hb hby at_35) rfl ?_
    show Steps p.tables e below (T15.setTop (mkF m 36 #[.val (.int p0), .val (.int p1), .val (.int p2), .val (.int v2_0), .val (.ref b7), .val (.int r16), .unset, .unset, .unset, .unset, .unset] [(.long ((p0.toInt64) - (p1.toInt64)))])) _
    refine XS.lstore X15.here hx rfl (hb hby at_36) rfl (l' := #[.val (.int p0), .val (.int p1), .val (.int p2), .val (.int v2_0), .val (.ref b7), .val (.int r16), .val (.long ((p0.toInt64) - (p1.toInt64))), .second, .unset, .unset, .unset]) rfl ?_
    show Steps p.tables e below (T15.setTop (mkF m 38 #[.val (.int p0), .val (.int p1), .val (.int p2), .val (.int v2_0), .val (.ref b7), .val (.int r16), .val (.long ((p0.toInt64) - (p1.toInt64))), .second, .unset, .unset, .unset] [])) _
    refine XS.iloadN X15.here hx rfl (hb hby at_38) rfl ?_
    show Steps p.tables e below (T15.setTop (mkF m 39 #[.val (.int p0), .val (.int p1), .val (.int p2), .val (.int v2_0), .val (.ref b7), .val (.int r16), .val (.long ((p0.toInt64) - (p1.toInt64))), .second, .unset, .unset, .unset] [(.int v2_0)])) _
    exact Steps.refl _)
  obtain ⟨v19_0, hv19_0, S19⟩ : ∃ (v19_0 : Int64), (if v2_0 = (0 : Int32) then (0 : Int64) else (1 : Int64)) = v19_0 ∧ Steps p.tables e below (T15.setTop (mkF m 39 #[.val (.int p0), .val (.int p1), .val (.int p2), .val (.int v2_0), .val (.ref b7), .val (.int r16), .val (.long ((p0.toInt64) - (p1.toInt64))), .second, .unset, .unset, .unset] [(.int v2_0)])) (T15.setTop (mkF m 47 #[.val (.int p0), .val (.int p1), .val (.int p2), .val (.int v2_0), .val (.ref b7), .val (.int r16), .val (.long ((p0.toInt64) - (p1.toInt64))), .second, .unset, .unset, .unset] [(.long v19_0)])) := by
    have R19 : Steps p.tables e below (T15.setTop (mkF m 39 #[.val (.int p0), .val (.int p1), .val (.int p2), .val (.int v2_0), .val (.ref b7), .val (.int r16), .val (.long ((p0.toInt64) - (p1.toInt64))), .second, .unset, .unset, .unset] [(.int v2_0)])) (T15.setTop (mkF m 39 #[.val (.int p0), .val (.int p1), .val (.int p2), .val (.int v2_0), .val (.ref b7), .val (.int r16), .val (.long ((p0.toInt64) - (p1.toInt64))), .second, .unset, .unset, .unset] [(.int v2_0)])) := Steps.refl _
    by_cases hc39 : v2_0 = (0 : Int32)
    · have K20 : Steps p.tables e below _ (T15.setTop (mkF m 47 #[.val (.int p0), .val (.int p1), .val (.int p2), .val (.int v2_0), .val (.ref b7), .val (.int r16), .val (.long ((p0.toInt64) - (p1.toInt64))), .second, .unset, .unset, .unset] [(.long (0 : Int64))])) := R19.trans (by
        show Steps p.tables e below (T15.setTop (mkF m 39 #[.val (.int p0), .val (.int p1), .val (.int p2), .val (.int v2_0), .val (.ref b7), .val (.int r16), .val (.long ((p0.toInt64) - (p1.toInt64))), .second, .unset, .unset, .unset] [(.int v2_0)])) _
        refine XS.ifYes X15.here hx rfl (pc0 := 39) (pc' := 46) rfl (hb hby at_39) rfl ((if0 _ _).trans (teq hc39).1) (by decide) (by decide) ?_
        show Steps p.tables e below (T15.setTop (mkF m 46 #[.val (.int p0), .val (.int p1), .val (.int p2), .val (.int v2_0), .val (.ref b7), .val (.int r16), .val (.long ((p0.toInt64) - (p1.toInt64))), .second, .unset, .unset, .unset] [])) _
        refine XS.lconst X15.here hx rfl (hb hby at_46) ?_
        show Steps p.tables e below (T15.setTop (mkF m 47 #[.val (.int p0), .val (.int p1), .val (.int p2), .val (.int v2_0), .val (.ref b7), .val (.int r16), .val (.long ((p0.toInt64) - (p1.toInt64))), .second, .unset, .unset, .unset] [(.long (0 : Int64))])) _
        exact Steps.refl _)
      exact ⟨(0 : Int64), (by rw [if_pos hc39]), K20⟩
    · have K21 : Steps p.tables e below _ (T15.setTop (mkF m 47 #[.val (.int p0), .val (.int p1), .val (.int p2), .val (.int v2_0), .val (.ref b7), .val (.int r16), .val (.long ((p0.toInt64) - (p1.toInt64))), .second, .unset, .unset, .unset] [(.long (1 : Int64))])) := R19.trans (by
        show Steps p.tables e below (T15.setTop (mkF m 39 #[.val (.int p0), .val (.int p1), .val (.int p2), .val (.int v2_0), .val (.ref b7), .val (.int r16), .val (.long ((p0.toInt64) - (p1.toInt64))), .second, .unset, .unset, .unset] [(.int v2_0)])) _
        refine XS.ifNo X15.here hx rfl (hb hby at_39) rfl ((if0 _ _).trans (feq hc39).1) ?_
        show Steps p.tables e below (T15.setTop (mkF m 42 #[.val (.int p0), .val (.int p1), .val (.int p2), .val (.int v2_0), .val (.ref b7), .val (.int r16), .val (.long ((p0.toInt64) - (p1.toInt64))), .second, .unset, .unset, .unset] [])) _
        refine XS.lconst X15.here hx rfl (hb hby at_42) ?_
        show Steps p.tables e below (T15.setTop (mkF m 43 #[.val (.int p0), .val (.int p1), .val (.int p2), .val (.int v2_0), .val (.ref b7), .val (.int r16), .val (.long ((p0.toInt64) - (p1.toInt64))), .second, .unset, .unset, .unset] [(.long (1 : Int64))])) _
        refine XS.goto X15.here hx rfl (pc0 := 43) (pc' := 47) rfl (hb hby at_43) (by decide) (by decide) ?_
        show Steps p.tables e below (T15.setTop (mkF m 47 #[.val (.int p0), .val (.int p1), .val (.int p2), .val (.int v2_0), .val (.ref b7), .val (.int r16), .val (.long ((p0.toInt64) - (p1.toInt64))), .second, .unset, .unset, .unset] [(.long (1 : Int64))])) _
        exact Steps.refl _)
      exact ⟨(1 : Int64), (by rw [if_neg hc39]), K21⟩
  have K22 := K18.trans S19
  have K23 : Steps p.tables e below _ (T15.setTop (mkF m 54 #[.val (.int p0), .val (.int p1), .val (.int p2), .val (.int v2_0), .val (.ref b7), .val (.int r16), .val (.long ((p0.toInt64) - (p1.toInt64))), .second, .val (.long v19_0), .second, .unset] [(.int (lcmpW ((p0.toInt64) - (p1.toInt64)) v19_0))])) := K22.trans (by
    show Steps p.tables e below (T15.setTop (mkF m 47 #[.val (.int p0), .val (.int p1), .val (.int p2), .val (.int v2_0), .val (.ref b7), .val (.int r16), .val (.long ((p0.toInt64) - (p1.toInt64))), .second, .unset, .unset, .unset] [(.long v19_0)])) _
    refine XS.lstore X15.here hx rfl (hb hby at_47) rfl (l' := #[.val (.int p0), .val (.int p1), .val (.int p2), .val (.int v2_0), .val (.ref b7), .val (.int r16), .val (.long ((p0.toInt64) - (p1.toInt64))), .second, .val (.long v19_0), .second, .unset]) rfl ?_
    show Steps p.tables e below (T15.setTop (mkF m 49 #[.val (.int p0), .val (.int p1), .val (.int p2), .val (.int v2_0), .val (.ref b7), .val (.int r16), .val (.long ((p0.toInt64) - (p1.toInt64))), .second, .val (.long v19_0), .second, .unset] [])) _
    refine XS.lload X15.here hx rfl (hb hby at_49) rfl ?_
    show Steps p.tables e below (T15.setTop (mkF m 51 #[.val (.int p0), .val (.int p1), .val (.int p2), .val (.int v2_0), .val (.ref b7), .val (.int r16), .val (.long ((p0.toInt64) - (p1.toInt64))), .second, .val (.long v19_0), .second, .unset] [(.long ((p0.toInt64) - (p1.toInt64)))])) _
    refine XS.lload X15.here hx rfl (hb hby at_51) rfl ?_
    show Steps p.tables e below (T15.setTop (mkF m 53 #[.val (.int p0), .val (.int p1), .val (.int p2), .val (.int v2_0), .val (.ref b7), .val (.int r16), .val (.long ((p0.toInt64) - (p1.toInt64))), .second, .val (.long v19_0), .second, .unset] [(.long v19_0), (.long ((p0.toInt64) - (p1.toInt64)))])) _
    refine XS.lcmp X15.here hx rfl (hb hby at_53) rfl ?_
    show Steps p.tables e below (T15.setTop (mkF m 54 #[.val (.int p0), .val (.int p1), .val (.int p2), .val (.int v2_0), .val (.ref b7), .val (.int r16), .val (.long ((p0.toInt64) - (p1.toInt64))), .second, .val (.long v19_0), .second, .unset] [(.int (lcmpW ((p0.toInt64) - (p1.toInt64)) v19_0))])) _
    exact Steps.refl _)
  obtain ⟨v24_0, hv24_0, S24⟩ : ∃ (v24_0 : Int32), (if ((p0.toInt64) - (p1.toInt64)) < v19_0 then (0 : Int32) else (1 : Int32)) = v24_0 ∧ Steps p.tables e below (T15.setTop (mkF m 54 #[.val (.int p0), .val (.int p1), .val (.int p2), .val (.int v2_0), .val (.ref b7), .val (.int r16), .val (.long ((p0.toInt64) - (p1.toInt64))), .second, .val (.long v19_0), .second, .unset] [(.int (lcmpW ((p0.toInt64) - (p1.toInt64)) v19_0))])) (T15.setTop (mkF m 62 #[.val (.int p0), .val (.int p1), .val (.int p2), .val (.int v2_0), .val (.ref b7), .val (.int r16), .val (.long ((p0.toInt64) - (p1.toInt64))), .second, .val (.long v19_0), .second, .unset] [(.int v24_0)])) := by
    have R24 : Steps p.tables e below (T15.setTop (mkF m 54 #[.val (.int p0), .val (.int p1), .val (.int p2), .val (.int v2_0), .val (.ref b7), .val (.int r16), .val (.long ((p0.toInt64) - (p1.toInt64))), .second, .val (.long v19_0), .second, .unset] [(.int (lcmpW ((p0.toInt64) - (p1.toInt64)) v19_0))])) (T15.setTop (mkF m 54 #[.val (.int p0), .val (.int p1), .val (.int p2), .val (.int v2_0), .val (.ref b7), .val (.int r16), .val (.long ((p0.toInt64) - (p1.toInt64))), .second, .val (.long v19_0), .second, .unset] [(.int (lcmpW ((p0.toInt64) - (p1.toInt64)) v19_0))])) := Steps.refl _
    by_cases hc54 : ((p0.toInt64) - (p1.toInt64)) < v19_0
    · have K25 : Steps p.tables e below _ (T15.setTop (mkF m 62 #[.val (.int p0), .val (.int p1), .val (.int p2), .val (.int v2_0), .val (.ref b7), .val (.int r16), .val (.long ((p0.toInt64) - (p1.toInt64))), .second, .val (.long v19_0), .second, .unset] [(.int (0 : Int32))])) := R24.trans (by
        show Steps p.tables e below (T15.setTop (mkF m 54 #[.val (.int p0), .val (.int p1), .val (.int p2), .val (.int v2_0), .val (.ref b7), .val (.int r16), .val (.long ((p0.toInt64) - (p1.toInt64))), .second, .val (.long v19_0), .second, .unset] [(.int (lcmpW ((p0.toInt64) - (p1.toInt64)) v19_0))])) _
        refine XS.ifYes X15.here hx rfl (pc0 := 54) (pc' := 61) rfl (hb hby at_54) rfl ((if0 _ _).trans (tlt ((lw_lt ((p0.toInt64) - (p1.toInt64)) v19_0).mpr hc54)).1) (by decide) (by decide) ?_
        show Steps p.tables e below (T15.setTop (mkF m 61 #[.val (.int p0), .val (.int p1), .val (.int p2), .val (.int v2_0), .val (.ref b7), .val (.int r16), .val (.long ((p0.toInt64) - (p1.toInt64))), .second, .val (.long v19_0), .second, .unset] [])) _
        refine XS.iconst X15.here hx rfl (hb hby at_61) ?_
        show Steps p.tables e below (T15.setTop (mkF m 62 #[.val (.int p0), .val (.int p1), .val (.int p2), .val (.int v2_0), .val (.ref b7), .val (.int r16), .val (.long ((p0.toInt64) - (p1.toInt64))), .second, .val (.long v19_0), .second, .unset] [(.int (0 : Int32))])) _
        exact Steps.refl _)
      exact ⟨(0 : Int32), (by rw [if_pos hc54]), K25⟩
    · have K26 : Steps p.tables e below _ (T15.setTop (mkF m 62 #[.val (.int p0), .val (.int p1), .val (.int p2), .val (.int v2_0), .val (.ref b7), .val (.int r16), .val (.long ((p0.toInt64) - (p1.toInt64))), .second, .val (.long v19_0), .second, .unset] [(.int (1 : Int32))])) := R24.trans (by
        show Steps p.tables e below (T15.setTop (mkF m 54 #[.val (.int p0), .val (.int p1), .val (.int p2), .val (.int v2_0), .val (.ref b7), .val (.int r16), .val (.long ((p0.toInt64) - (p1.toInt64))), .second, .val (.long v19_0), .second, .unset] [(.int (lcmpW ((p0.toInt64) - (p1.toInt64)) v19_0))])) _
        refine XS.ifNo X15.here hx rfl (hb hby at_54) rfl ((if0 _ _).trans (flt (fun z => hc54 ((lw_lt ((p0.toInt64) - (p1.toInt64)) v19_0).mp z))).1) ?_
        show Steps p.tables e below (T15.setTop (mkF m 57 #[.val (.int p0), .val (.int p1), .val (.int p2), .val (.int v2_0), .val (.ref b7), .val (.int r16), .val (.long ((p0.toInt64) - (p1.toInt64))), .second, .val (.long v19_0), .second, .unset] [])) _
        refine XS.iconst X15.here hx rfl (hb hby at_57) ?_
        show Steps p.tables e below (T15.setTop (mkF m 58 #[.val (.int p0), .val (.int p1), .val (.int p2), .val (.int v2_0), .val (.ref b7), .val (.int r16), .val (.long ((p0.toInt64) - (p1.toInt64))), .second, .val (.long v19_0), .second, .unset] [(.int (1 : Int32))])) _
        refine XS.goto X15.here hx rfl (pc0 := 58) (pc' := 62) rfl (hb hby at_58) (by decide) (by decide) ?_
        show Steps p.tables e below (T15.setTop (mkF m 62 #[.val (.int p0), .val (.int p1), .val (.int p2), .val (.int v2_0), .val (.ref b7), .val (.int r16), .val (.long ((p0.toInt64) - (p1.toInt64))), .second, .val (.long v19_0), .second, .unset] [(.int (1 : Int32))])) _
        exact Steps.refl _)
      exact ⟨(1 : Int32), (by rw [if_neg hc54]), K26⟩
  have K27 := K23.trans S24
  have K28 : Steps p.tables e below _ (T15.setTop (mkF m 68 #[.val (.int p0), .val (.int p1), .val (.int p2), .val (.int v2_0), .val (.ref b7), .val (.int r16), .val (.long ((p0.toInt64) - (p1.toInt64))), .second, .val (.long v19_0), .second, .val (.int v24_0)] [(.int v24_0), (.int r16)])) := K27.trans (by
    show Steps p.tables e below (T15.setTop (mkF m 62 #[.val (.int p0), .val (.int p1), .val (.int p2), .val (.int v2_0), .val (.ref b7), .val (.int r16), .val (.long ((p0.toInt64) - (p1.toInt64))), .second, .val (.long v19_0), .second, .unset] [(.int v24_0)])) _
    refine XS.istore X15.here hx rfl (hb hby at_62) rfl (l' := #[.val (.int p0), .val (.int p1), .val (.int p2), .val (.int v2_0), .val (.ref b7), .val (.int r16), .val (.long ((p0.toInt64) - (p1.toInt64))), .second, .val (.long v19_0), .second, .val (.int v24_0)]) rfl ?_
    show Steps p.tables e below (T15.setTop (mkF m 64 #[.val (.int p0), .val (.int p1), .val (.int p2), .val (.int v2_0), .val (.ref b7), .val (.int r16), .val (.long ((p0.toInt64) - (p1.toInt64))), .second, .val (.long v19_0), .second, .val (.int v24_0)] [])) _
    refine XS.iload X15.here hx rfl (hb hby at_64) rfl ?_
    show Steps p.tables e below (T15.setTop (mkF m 66 #[.val (.int p0), .val (.int p1), .val (.int p2), .val (.int v2_0), .val (.ref b7), .val (.int r16), .val (.long ((p0.toInt64) - (p1.toInt64))), .second, .val (.long v19_0), .second, .val (.int v24_0)] [(.int r16)])) _
    refine XS.iload X15.here hx rfl (hb hby at_66) rfl ?_
    show Steps p.tables e below (T15.setTop (mkF m 68 #[.val (.int p0), .val (.int p1), .val (.int p2), .val (.int v2_0), .val (.ref b7), .val (.int r16), .val (.long ((p0.toInt64) - (p1.toInt64))), .second, .val (.long v19_0), .second, .val (.int v24_0)] [(.int v24_0), (.int r16)])) _
    exact Steps.refl _)
  obtain ⟨v29_0, hv29_0, S29⟩ : ∃ (v29_0 : Int32), (if r16 = v24_0 then (1 : Int32) else (0 : Int32)) = v29_0 ∧ Steps p.tables e below (T15.setTop (mkF m 68 #[.val (.int p0), .val (.int p1), .val (.int p2), .val (.int v2_0), .val (.ref b7), .val (.int r16), .val (.long ((p0.toInt64) - (p1.toInt64))), .second, .val (.long v19_0), .second, .val (.int v24_0)] [(.int v24_0), (.int r16)])) (T15.setTop (mkF m 76 #[.val (.int p0), .val (.int p1), .val (.int p2), .val (.int v2_0), .val (.ref b7), .val (.int r16), .val (.long ((p0.toInt64) - (p1.toInt64))), .second, .val (.long v19_0), .second, .val (.int v24_0)] [(.int v29_0)])) := by
    have R29 : Steps p.tables e below (T15.setTop (mkF m 68 #[.val (.int p0), .val (.int p1), .val (.int p2), .val (.int v2_0), .val (.ref b7), .val (.int r16), .val (.long ((p0.toInt64) - (p1.toInt64))), .second, .val (.long v19_0), .second, .val (.int v24_0)] [(.int v24_0), (.int r16)])) (T15.setTop (mkF m 68 #[.val (.int p0), .val (.int p1), .val (.int p2), .val (.int v2_0), .val (.ref b7), .val (.int r16), .val (.long ((p0.toInt64) - (p1.toInt64))), .second, .val (.long v19_0), .second, .val (.int v24_0)] [(.int v24_0), (.int r16)])) := Steps.refl _
    by_cases hc68 : r16 = v24_0
    · have K30 : Steps p.tables e below _ (T15.setTop (mkF m 76 #[.val (.int p0), .val (.int p1), .val (.int p2), .val (.int v2_0), .val (.ref b7), .val (.int r16), .val (.long ((p0.toInt64) - (p1.toInt64))), .second, .val (.long v19_0), .second, .val (.int v24_0)] [(.int (1 : Int32))])) := R29.trans (by
        show Steps p.tables e below (T15.setTop (mkF m 68 #[.val (.int p0), .val (.int p1), .val (.int p2), .val (.int v2_0), .val (.ref b7), .val (.int r16), .val (.long ((p0.toInt64) - (p1.toInt64))), .second, .val (.long v19_0), .second, .val (.int v24_0)] [(.int v24_0), (.int r16)])) _
        refine XS.icmpNo X15.here hx rfl (hb hby at_68) rfl (teq hc68).2 ?_
        show Steps p.tables e below (T15.setTop (mkF m 71 #[.val (.int p0), .val (.int p1), .val (.int p2), .val (.int v2_0), .val (.ref b7), .val (.int r16), .val (.long ((p0.toInt64) - (p1.toInt64))), .second, .val (.long v19_0), .second, .val (.int v24_0)] [])) _
        refine XS.iconst X15.here hx rfl (hb hby at_71) ?_
        show Steps p.tables e below (T15.setTop (mkF m 72 #[.val (.int p0), .val (.int p1), .val (.int p2), .val (.int v2_0), .val (.ref b7), .val (.int r16), .val (.long ((p0.toInt64) - (p1.toInt64))), .second, .val (.long v19_0), .second, .val (.int v24_0)] [(.int (1 : Int32))])) _
        refine XS.goto X15.here hx rfl (pc0 := 72) (pc' := 76) rfl (hb hby at_72) (by decide) (by decide) ?_
        show Steps p.tables e below (T15.setTop (mkF m 76 #[.val (.int p0), .val (.int p1), .val (.int p2), .val (.int v2_0), .val (.ref b7), .val (.int r16), .val (.long ((p0.toInt64) - (p1.toInt64))), .second, .val (.long v19_0), .second, .val (.int v24_0)] [(.int (1 : Int32))])) _
        exact Steps.refl _)
      exact ⟨(1 : Int32), (by rw [if_pos hc68]), K30⟩
    · have K31 : Steps p.tables e below _ (T15.setTop (mkF m 76 #[.val (.int p0), .val (.int p1), .val (.int p2), .val (.int v2_0), .val (.ref b7), .val (.int r16), .val (.long ((p0.toInt64) - (p1.toInt64))), .second, .val (.long v19_0), .second, .val (.int v24_0)] [(.int (0 : Int32))])) := R29.trans (by
        show Steps p.tables e below (T15.setTop (mkF m 68 #[.val (.int p0), .val (.int p1), .val (.int p2), .val (.int v2_0), .val (.ref b7), .val (.int r16), .val (.long ((p0.toInt64) - (p1.toInt64))), .second, .val (.long v19_0), .second, .val (.int v24_0)] [(.int v24_0), (.int r16)])) _
        refine XS.icmpYes X15.here hx rfl (pc0 := 68) (pc' := 75) rfl (hb hby at_68) rfl (feq hc68).2 (by decide) (by decide) ?_
        show Steps p.tables e below (T15.setTop (mkF m 75 #[.val (.int p0), .val (.int p1), .val (.int p2), .val (.int v2_0), .val (.ref b7), .val (.int r16), .val (.long ((p0.toInt64) - (p1.toInt64))), .second, .val (.long v19_0), .second, .val (.int v24_0)] [])) _
        refine XS.iconst X15.here hx rfl (hb hby at_75) ?_
        show Steps p.tables e below (T15.setTop (mkF m 76 #[.val (.int p0), .val (.int p1), .val (.int p2), .val (.int v2_0), .val (.ref b7), .val (.int r16), .val (.long ((p0.toInt64) - (p1.toInt64))), .second, .val (.long v19_0), .second, .val (.int v24_0)] [(.int (0 : Int32))])) _
        exact Steps.refl _)
      exact ⟨(0 : Int32), (by rw [if_neg hc68]), K31⟩
  have K32 := K28.trans S29
  have hone : (v29_0 &&& 1) = (1 : Int32) := own_law_0 p0 p1 p2 v2_0 r16 v19_0 v24_0 v29_0 hv2_0 hr16 hv19_0 hv24_0 hv29_0
  obtain ⟨fs, hr, hrun, hended, hW, hsame⟩ := X15.leave (v := some (.int (v29_0 &&& 1))) (fun h => by rw [Bd.returns] at h; cases h)
  exact ⟨_, _, K32.trans (retN X15 hx (t := .boolean) Bd.returns (by simp) (hb hby at_76) hr), hrun, hended, _, _, rfl, ⟨by rw [hone], N15'⟩, ⟨_, rfl⟩, hW, hsame.mono (by decide) (by decide)⟩
set_option maxRecDepth 65536 in
set_option maxHeartbeats 40000000 in
theorem comes_1 {Post : Tables → Env → Array Value → State → Outcome → State → Prop} (hpost : ∀ tb e args s v u, (limb_1_1.after args s (.returned v) u = true ∧ limb_1_2.after args s (.returned v) u = true ∧ True) → FrameEnd s (.returned v) u (Jvm.fieldLocs frame_1_writes args s ++ Jvm.arrayLocs frame_1_arrays args s ++ Jvm.staticLocs frame_1_statics s) 16 128 → Post tb e args s (.returned v) u) :
    ArmFor flags0 classFile x code maxLocals ret World_1 tables_1 room_1 Calls_1 rest_1 Pre_1 Post := by
  intro l hfl _ _ p e ha hc hk s m args below hf hA hF happ hP
  obtain ⟨hcalls, hrest, hpre⟩ := hP
  obtain ⟨-, -, -, hnamed, -, -, -, hat⟩ := (Spec.applies_iff hf).mp happ
  obtain ⟨hg, hn⟩ := and_e (Cond.before_iff.mp (show (Jvm.Cond.and given_1 narrow_1).before args s = true from hpre))
  obtain ⟨g1, g2⟩ := and_e hg
  obtain ⟨g3, g4⟩ := and_e g2
  obtain ⟨g5, g6⟩ := and_e g4
  obtain ⟨w0, w1, w2, rfl⟩ : ∃ w0 w1 w2 : Value, args = #[w0, w1, w2] := by
    have hs : args.size = 3 := by simpa [Cond.value, given_1] using g1
    obtain ⟨L⟩ := args
    match L, hs with
    | [w0, w1, w2], _ => exact ⟨w0, w1, w2, rfl⟩
  have hw := fun d (hd : d ∈ tables_1) => atoms_spec (ws := Jvm.Cond.code x code maxLocals ret :: tables_1) hat d (List.mem_cons_of_mem _ hd)
  obtain ⟨i0, ei0⟩ := is_v g3
  obtain rfl : w0 = (.int i0) := Option.some.inj ei0
  obtain ⟨i1, ei1⟩ := is_v g5
  obtain rfl : w1 = (.int i1) := Option.some.inj ei1
  obtain ⟨i2, ei2⟩ := is_v g6
  obtain rfl : w2 = (.int i2) := Option.some.inj ei2
  obtain ⟨n, o, h1, h2, h3, _, L, rfl, ⟨rfl, N⟩, hq⟩ := rm0 l s _ hw tables_1 i0 i1 i2 s.heap s.heap.size (Nat.le_refl _) p e ha hc hk s m _ below hf ((Spec.applies_iff_loose hf).mp happ).1 ⟨rfl, State.Warmed39.refl s, rfl⟩ trivial
  refine ⟨n, _, h1, h2, h3, hpost _ _ _ _ _ _ ⟨Cond.after_iff.mpr rfl, Cond.after_iff.mpr (eq_i res_at (Term.int_eval (1)) rfl), trivial⟩ ⟨hq.1, hq.2.1, (hq.2.2.sift fun y hy => Or.inr (N y hy)).mono (by decide) (by decide)⟩⟩
theorem main_1_1 : Claimed_1_1 := comes_1 fun _ _ _ _ _ _ h hF => ⟨h.1, hF⟩
theorem main_1_2 : Claimed_1_2 := comes_1 fun _ _ _ _ _ _ h hF => ⟨h.2.1, hF⟩
end Jvm.Pilot.@@N@@
namespace Jvm.Pilot.@@N@@
open Jvm Jvm.ClassFile Sem Op Lib Jvm.Free Jvm.Stand Jvm.Pilot.@@N@@.Jvm.D
/-! MADE BY PROGRAM (witnessworld.py) out of the Statement's table words and the real class files: 11 classes; the members and pool entries that the words name. The judged class is class 1, her method 1. -/
namespace start1
open Jvm.ClassFile
def u (s : String) : CpInfo := .utf8 (stringToUtf16 s)
/-- a pool by its gaps: so many unusable entries, then the entry; so many at the end -/
def gap : Nat → List CpInfo → List CpInfo
  | 0, r => r
  | n + 1, r => .unusable :: gap n r
def poolList (es : List (Nat × CpInfo)) (last : Nat) : List CpInfo := es.foldr (fun e r => gap e.1 (e.2 :: r)) (gap last [])
def pool (es : List (Nat × CpInfo)) (last : Nat) : Array CpInfo := ⟨poolList es last⟩
def fileOf (pool : Array CpInfo) (this : Nat) (attrs : Array Attribute := #[]) (ms : Array MethodInfo := #[]) (fl : Nat := 33) (sup : Nat := 0) (ifs : Array Nat := #[]) (fds : Array FieldInfo := #[]) : ClassFile where
  minorVersion := 0
  majorVersion := 65
  constantPool := pool
  accessFlags := fl
  thisClass := this
  superClass := sup
  interfaces := ifs
  fields := fds
  methods := ms
  attributes := attrs
def plain (name : String) (sup : Option ClassId) : Class where
  name := name
  kind := .ordinary
  loader := none
  accessFlags := 33
  super := sup
  interfaces := #[]
  cf := none
  fields := #[]
  methods := #[]
  instanceTypes := #[]
  staticTypes := #[]
  resolved := #[]
  callSites := []
  init := .initialized
  statics := none
  mirror := none

def pool0 : Array CpInfo := pool [(5, u "<init>"), (0, u "()V"), (1, .class_ 10), (1, u "java/lang/Object")] 113

def k0c0 : Code := { maxStack := 0, maxLocals := 1, code := object_method_1_code, exceptionTable := #[], attributes := #[] }
def k0m0 : Method := { name := "<init>", desc := "()V", sig := { parameters := [], returnType := none }, accessFlags := 1, code := some k0c0 }
/-- java/lang/Object -/
def k0 : Class := { plain "java/lang/Object" none with
  accessFlags := 33
  interfaces := #[]
  cf := some (fileOf pool0 8 #[] #[{ accessFlags := 1, nameIndex := 5, descriptorIndex := 6, attributes := #[] }] 33 0 #[] #[])
  fields := #[]
  methods := #[k0m0]
  instanceTypes := #[]
  staticTypes := #[]
  resolved := Array.replicate 124 none
  statics := none }

def pool1 : Array CpInfo := pool [(2, .class_ 4), (1, u "java/lang/Object"), (0, u "<init>"), (0, u "()V"), (0, .class_ 8), (0, u "com/example/critline/critline/model/PoolTarget"), (0, .methodref 7 10), (0, .nameAndType 5 11), (0, u "(IZ)V"), (0, .methodref 13 14), (0, .class_ 15), (0, .nameAndType 16 17), (0, u "com/example/critline/critline/engine/PoolEngine"), (0, u "succeeds"), (0, u "(ILcom/example/critline/critline/model/PoolTarget;)Z"), (0, .class_ 19), (0, u "com/example/critline/critline/engine/PoolEngineSucceedsPinLaw"), (2, u "law"), (0, u "(III)Z")] 3

def k1m0 : Method := { name := "<init>", desc := "()V", sig := { parameters := [], returnType := none }, accessFlags := 2, code := none }
def k1c1 : Code := { maxStack := 4, maxLocals := 11, code := code, exceptionTable := #[], attributes := #[] }
def k1m1 : Method := { name := "law", desc := "(III)Z", sig := { parameters := [.int, .int, .int], returnType := some .boolean }, accessFlags := 9, code := some k1c1 }
/-- com/example/critline/critline/engine/PoolEngineSucceedsPinLaw -/
def k1 : Class := { plain "com/example/critline/critline/engine/PoolEngineSucceedsPinLaw" (some 0) with
  accessFlags := 49
  interfaces := #[]
  cf := some (fileOf pool1 18 #[] #[{ accessFlags := 2, nameIndex := 5, descriptorIndex := 6, attributes := #[] }, { accessFlags := 9, nameIndex := 22, descriptorIndex := 23, attributes := #[] }] 49 2 #[] #[])
  fields := #[]
  methods := #[k1m0, k1m1]
  instanceTypes := #[]
  staticTypes := #[]
  resolved := Array.replicate 27 none
  statics := none }

def pool2 : Array CpInfo := pool [(1, .methodref 2 3), (0, .class_ 4), (0, .nameAndType 5 6), (0, u "java/lang/Object"), (0, u "<init>"), (0, u "()V"), (0, .class_ 8), (0, u "java/lang/Record")] 13

def k2c0 : Code := { maxStack := 1, maxLocals := 1, code := jdk_30_method_1_code, exceptionTable := #[], attributes := #[] }
def k2m0 : Method := { name := "<init>", desc := "()V", sig := { parameters := [], returnType := none }, accessFlags := 4, code := some k2c0 }
/-- java/lang/Record -/
def k2 : Class := { plain "java/lang/Record" (some 0) with
  accessFlags := 1057
  interfaces := #[]
  cf := some (fileOf pool2 7 #[] #[{ accessFlags := 4, nameIndex := 5, descriptorIndex := 6, attributes := #[] }] 1057 2 #[] #[])
  fields := #[]
  methods := #[k2m0]
  instanceTypes := #[]
  staticTypes := #[]
  resolved := Array.replicate 22 none
  statics := none }

def pool3 : Array CpInfo := pool [(1, .methodref 2 3), (0, .class_ 4), (0, .nameAndType 5 6), (0, u "java/lang/Record"), (0, u "<init>"), (0, u "()V"), (0, .fieldref 8 9), (0, .class_ 10), (0, .nameAndType 11 12), (0, u "com/example/critline/critline/model/PoolTarget"), (0, u "value"), (0, u "I"), (0, .fieldref 8 14), (0, .nameAndType 15 16), (0, u "contested"), (0, u "Z"), (2, u "(IZ)V"), (19, u "()I"), (1, u "()Z")] 21

def k3c0 : Code := { maxStack := 2, maxLocals := 3, code := prog_56_method_1_code, exceptionTable := #[], attributes := #[] }
def k3m0 : Method := { name := "<init>", desc := "(IZ)V", sig := { parameters := [.int, .boolean], returnType := none }, accessFlags := 1, code := some k3c0 }
def k3c1 : Code := { maxStack := 1, maxLocals := 1, code := prog_56_method_7_code, exceptionTable := #[], attributes := #[] }
def k3m1 : Method := { name := "value", desc := "()I", sig := { parameters := [], returnType := some .int }, accessFlags := 1, code := some k3c1 }
def k3c2 : Code := { maxStack := 1, maxLocals := 1, code := prog_56_method_8_code, exceptionTable := #[], attributes := #[] }
def k3m2 : Method := { name := "contested", desc := "()Z", sig := { parameters := [], returnType := some .boolean }, accessFlags := 1, code := some k3c2 }
/-- com/example/critline/critline/model/PoolTarget -/
def k3 : Class := { plain "com/example/critline/critline/model/PoolTarget" (some 2) with
  accessFlags := 49
  interfaces := #[]
  cf := some (fileOf pool3 8 #[] #[{ accessFlags := 1, nameIndex := 5, descriptorIndex := 19, attributes := #[] }, { accessFlags := 1, nameIndex := 11, descriptorIndex := 39, attributes := #[] }, { accessFlags := 1, nameIndex := 15, descriptorIndex := 41, attributes := #[] }] 49 2 #[] #[{ accessFlags := 18, nameIndex := 11, descriptorIndex := 12, attributes := #[] }, { accessFlags := 18, nameIndex := 15, descriptorIndex := 16, attributes := #[] }])
  fields := #[{ name := "value", type := .int, accessFlags := 18, slot := 0, constantValue := 0 }, { name := "contested", type := .boolean, accessFlags := 18, slot := 1, constantValue := 0 }]
  methods := #[k3m0, k3m1, k3m2]
  instanceTypes := #[.int, .boolean]
  staticTypes := #[]
  resolved := Array.replicate 63 none
  statics := none }

def pool4 : Array CpInfo := pool [(2, .class_ 4), (1, u "java/lang/Object"), (0, u "<init>"), (0, u "()V"), (29, u "()Z"), (9, u "()I"), (10, .methodref 58 59), (0, .class_ 60), (0, .nameAndType 61 36), (0, u "com/example/critline/critline/model/PoolTarget"), (0, u "contested"), (0, .methodref 58 63), (0, .nameAndType 64 46), (0, u "value"), (0, .class_ 66), (0, u "com/example/critline/critline/engine/PoolEngine"), (8, u "succeeds"), (0, u "(ILcom/example/critline/critline/model/PoolTarget;)Z")] 2

def k4m0 : Method := { name := "<init>", desc := "()V", sig := { parameters := [], returnType := none }, accessFlags := 2, code := none }
def k4c1 : Code := { maxStack := 2, maxLocals := 2, code := prog_18_method_4_code, exceptionTable := #[], attributes := #[] }
def k4m1 : Method := { name := "succeeds", desc := "(ILcom/example/critline/critline/model/PoolTarget;)Z", sig := { parameters := [.int, (.object "com/example/critline/critline/model/PoolTarget")], returnType := some .boolean }, accessFlags := 9, code := some k4c1 }
/-- com/example/critline/critline/engine/PoolEngine -/
def k4 : Class := { plain "com/example/critline/critline/engine/PoolEngine" (some 0) with
  accessFlags := 49
  interfaces := #[]
  cf := some (fileOf pool4 65 #[] #[{ accessFlags := 2, nameIndex := 5, descriptorIndex := 6, attributes := #[] }, { accessFlags := 9, nameIndex := 75, descriptorIndex := 76, attributes := #[] }] 49 2 #[] #[])
  fields := #[]
  methods := #[k4m0, k4m1]
  instanceTypes := #[]
  staticTypes := #[]
  resolved := Array.replicate 79 none
  statics := none }

def pool5 : Array CpInfo := pool [(1, u "java/lang/Cloneable"), (0, .class_ 1), (0, u "java/lang/Object"), (0, .class_ 3)] 3

/-- java/lang/Cloneable -/
def k5 : Class := { plain "java/lang/Cloneable" (some 0) with
  accessFlags := 1537
  interfaces := #[]
  cf := some (fileOf pool5 2 #[] #[] 1537 4 #[] #[])
  fields := #[]
  methods := #[]
  instanceTypes := #[]
  staticTypes := #[]
  resolved := Array.replicate 8 none
  statics := none }

def pool6 : Array CpInfo := pool [(1, u "java/io/Serializable"), (0, .class_ 1), (0, u "java/lang/Object"), (0, .class_ 3)] 3

/-- java/io/Serializable -/
def k6 : Class := { plain "java/io/Serializable" (some 0) with
  accessFlags := 1537
  interfaces := #[]
  cf := some (fileOf pool6 2 #[] #[] 1537 4 #[] #[])
  fields := #[]
  methods := #[]
  instanceTypes := #[]
  staticTypes := #[]
  resolved := Array.replicate 8 none
  statics := none }

/-- the primitive byte -/
def k7 : Class := { plain "byte" none with kind := .primitive 'B', accessFlags := 0x411 }
/-- [B -/
def k8 : Class := { plain "[B" (some 0) with kind := .array 7 .byte, interfaces := #[5, 6], accessFlags := 1041 }

/-- the primitive int -/
def k9 : Class := { plain "int" none with kind := .primitive 'I', accessFlags := 0x411 }
/-- [I -/
def k10 : Class := { plain "[I" (some 0) with kind := .array 9 .int, interfaces := #[5, 6], accessFlags := 1041 }

def heap : Heap := #[]
def classes : Array Class := #[k0, k1, k2, k3, k4, k5, k6, k7, k8, k9, k10]
def interned : List (Array UInt16 × Addr) := []
def slotsUsed : Nat := 0
def theMethod : MethodId := ⟨1, 1⟩
def args0 : Array Value := #[.int 5, .int 3, .int 1]
def aboutOver (below : List Frame) : State where
  vm := { classes := classes, interned := interned.toArray }
  heap := heap
  slotsUsed := slotsUsed
  threads := #[{ frames := .invoking theMethod args0 :: below }]
def below0 : List Frame := [.native { method := ⟨0, 0⟩, args := #[] }]
def about1 : State := aboutOver below0
def p0 : Program := .bare "" "" ""
def e0 : Env := launch0.env 0 0 0
theorem w_frames : about1.frames = Frame.invoking theMethod args0 :: below0 := rfl
set_option maxRecDepth 65536 in
theorem w_args : argsFit about1.vm theMethod args0 = true := by decide +kernel
set_option maxRecDepth 65536 in
theorem w_heap : heapFits about1 = true := by decide +kernel
set_option maxRecDepth 65536 in
theorem w_runnable : about1.curStatus? = some .runnable := by decide +kernel
set_option maxRecDepth 65536 in
theorem w_alone : about1.alone = true := by decide +kernel
set_option maxRecDepth 65536 in
theorem w_named : about1.methodNamed? x = some theMethod := by decide +kernel
set_option maxRecDepth 65536 in
theorem w_hears : about1.hears theMethod below0 = true := by decide +kernel
set_option maxRecDepth 65536 in
theorem w_ripe : about1.ripe theMethod args0 below0 = true := by decide +kernel
theorem w_running : about1.status = .running := rfl
set_option maxRecDepth 65536 in
theorem w_room : about1.hasRoom e0.platform room_1 = true :=
  launch0.hasRoom_least _ room_1 (by decide +kernel) (by decide +kernel) (by decide +kernel) (by decide +kernel) (by decide +kernel) (by decide +kernel)
theorem allAtoms_all (ts : List Jvm.Cond) (a : Array Jvm.Value) (st : Jvm.State) : (allAtoms ts).before a st = ts.all (fun c => c.before a st) := by
  induction ts with
  | nil => rfl
  | cons c t ih =>
    show (Jvm.Cond.and c (allAtoms t)).before a st = _
    rw [Jvm.Cond.before_and, ih, List.all_cons]
def words1 : List Jvm.Cond := Jvm.Cond.code x code maxLocals ret :: tables_1
/-- a 'code' word, met by the world's own term for the bytes: nothing is compared byte by byte -/
theorem code_word {y : MethodName} {bytes : ByteArray} {mx : Nat} {rt : Option FieldType} {a : Array Value} {s : State} {m : MethodId} {meth : Method} {c : Code} (h1 : s.methodNamed? y = some m) (h2 : s.vm.method? m = some meth) (h3 : meth.code = some c) (h4 : c.code = bytes)
    (h5 : (c.maxLocals == mx && c.exceptionTable.isEmpty && decide (c.maxStack ≤ mostOperands) && decide (meth.sig.returnType = rt) && !meth.locks && decide (parseMethodDescriptor y.desc = some meth.sig)) = true) : (Jvm.Cond.code y bytes mx rt).before a s = true := by
  simp only [Bool.and_eq_true, beq_iff_eq, Bool.not_eq_true', decide_eq_true_eq] at h5
  obtain ⟨⟨⟨⟨⟨g1, g2⟩, g3⟩, g4⟩, g5⟩, g6⟩ := h5
  simp [Cond.before, Cond.holds, Cond.value, h1, h2, h3, h4, g1, g2, g3, g4, g5, g6]
def isCode : Jvm.Cond → Bool
  | .code _ _ _ _ => true
  | _ => false
theorem all_split {L : List Jvm.Cond} {P : Jvm.Cond → Bool} (h1 : L.all (fun c => isCode c || P c) = true) (h2 : ∀ c ∈ L.filter isCode, P c = true) : L.all P = true := by
  refine List.all_eq_true.mpr fun c hc => ?_
  have h := List.all_eq_true.mp h1 c hc
  rcases Bool.eq_false_or_eq_true (isCode c) with hi | hi
  · exact h2 c (List.mem_filter.mpr ⟨hc, hi⟩)
  · simpa [hi] using h
set_option maxRecDepth 65536 in
theorem w_c0 : (Jvm.Cond.code x code maxLocals ret).before args0 about1 = true := code_word (m := ⟨1, 1⟩) (meth := k1m1) (c := k1c1) (by decide +kernel) rfl rfl rfl (by decide +kernel)
set_option maxRecDepth 65536 in
theorem w_c1 : (Jvm.Cond.code ({ cls := "com/example/critline/critline/model/PoolTarget", name := "<init>", desc := "(IZ)V" } : Jvm.MethodName) prog_56_method_1_code (3 : Nat) (Option.none : Option Jvm.ClassFile.FieldType)).before args0 about1 = true := code_word (m := ⟨3, 0⟩) (meth := k3m0) (c := k3c0) (by decide +kernel) rfl rfl rfl (by decide +kernel)
set_option maxRecDepth 65536 in
theorem w_c2 : (Jvm.Cond.code ({ cls := "java/lang/Record", name := "<init>", desc := "()V" } : Jvm.MethodName) jdk_30_method_1_code (1 : Nat) (Option.none : Option Jvm.ClassFile.FieldType)).before args0 about1 = true := code_word (m := ⟨2, 0⟩) (meth := k2m0) (c := k2c0) (by decide +kernel) rfl rfl rfl (by decide +kernel)
set_option maxRecDepth 65536 in
theorem w_c3 : (Jvm.Cond.code ({ cls := "java/lang/Object", name := "<init>", desc := "()V" } : Jvm.MethodName) object_method_1_code (1 : Nat) (Option.none : Option Jvm.ClassFile.FieldType)).before args0 about1 = true := code_word (m := ⟨0, 0⟩) (meth := k0m0) (c := k0c0) (by decide +kernel) rfl rfl rfl (by decide +kernel)
set_option maxRecDepth 65536 in
theorem w_c4 : (Jvm.Cond.code ({ cls := "com/example/critline/critline/engine/PoolEngine", name := "succeeds", desc := "(ILcom/example/critline/critline/model/PoolTarget;)Z" } : Jvm.MethodName) prog_18_method_4_code (2 : Nat) (Option.some Jvm.ClassFile.FieldType.boolean)).before args0 about1 = true := code_word (m := ⟨4, 1⟩) (meth := k4m1) (c := k4c1) (by decide +kernel) rfl rfl rfl (by decide +kernel)
set_option maxRecDepth 65536 in
theorem w_c5 : (Jvm.Cond.code ({ cls := "com/example/critline/critline/model/PoolTarget", name := "contested", desc := "()Z" } : Jvm.MethodName) prog_56_method_8_code (1 : Nat) (Option.some Jvm.ClassFile.FieldType.boolean)).before args0 about1 = true := code_word (m := ⟨3, 2⟩) (meth := k3m2) (c := k3c2) (by decide +kernel) rfl rfl rfl (by decide +kernel)
set_option maxRecDepth 65536 in
theorem w_c6 : (Jvm.Cond.code ({ cls := "com/example/critline/critline/model/PoolTarget", name := "value", desc := "()I" } : Jvm.MethodName) prog_56_method_7_code (1 : Nat) (Option.some Jvm.ClassFile.FieldType.int)).before args0 about1 = true := code_word (m := ⟨3, 1⟩) (meth := k3m1) (c := k3c1) (by decide +kernel) rfl rfl rfl (by decide +kernel)
def codes1 : List Jvm.Cond := [Jvm.Cond.code x code maxLocals ret, Jvm.Cond.code ({ cls := "com/example/critline/critline/model/PoolTarget", name := "<init>", desc := "(IZ)V" } : Jvm.MethodName) prog_56_method_1_code (3 : Nat) (Option.none : Option Jvm.ClassFile.FieldType), Jvm.Cond.code ({ cls := "java/lang/Record", name := "<init>", desc := "()V" } : Jvm.MethodName) jdk_30_method_1_code (1 : Nat) (Option.none : Option Jvm.ClassFile.FieldType), Jvm.Cond.code ({ cls := "java/lang/Object", name := "<init>", desc := "()V" } : Jvm.MethodName) object_method_1_code (1 : Nat) (Option.none : Option Jvm.ClassFile.FieldType), Jvm.Cond.code ({ cls := "com/example/critline/critline/engine/PoolEngine", name := "succeeds", desc := "(ILcom/example/critline/critline/model/PoolTarget;)Z" } : Jvm.MethodName) prog_18_method_4_code (2 : Nat) (Option.some Jvm.ClassFile.FieldType.boolean), Jvm.Cond.code ({ cls := "com/example/critline/critline/model/PoolTarget", name := "contested", desc := "()Z" } : Jvm.MethodName) prog_56_method_8_code (1 : Nat) (Option.some Jvm.ClassFile.FieldType.boolean), Jvm.Cond.code ({ cls := "com/example/critline/critline/model/PoolTarget", name := "value", desc := "()I" } : Jvm.MethodName) prog_56_method_7_code (1 : Nat) (Option.some Jvm.ClassFile.FieldType.int)]
set_option maxRecDepth 65536 in
theorem codes_eq : words1.filter isCode = codes1 := rfl
theorem w_codes : ∀ c ∈ words1.filter isCode, c.before args0 about1 = true := by
  rw [codes_eq]
  intro c hc
  simp only [codes1, List.mem_cons, List.not_mem_nil, or_false] at hc
  rcases hc with rfl | rfl | rfl | rfl | rfl | rfl | rfl
  · exact w_c0
  · exact w_c1
  · exact w_c2
  · exact w_c3
  · exact w_c4
  · exact w_c5
  · exact w_c6
set_option maxRecDepth 65536 in
theorem w_t1 : (words1.take 24).all (fun c => isCode c || c.before args0 about1) = true := by decide +kernel
set_option maxRecDepth 65536 in
theorem w_t2 : (words1.drop 24).all (fun c => isCode c || c.before args0 about1) = true := by decide +kernel
theorem w_tables : (allAtoms (Jvm.Cond.code x code maxLocals ret :: tables_1)).before args0 about1 = true := by
  rw [allAtoms_all]
  show words1.all (fun c => c.before args0 about1) = true
  refine all_split ?_ w_codes
  rw [← List.take_append_drop 24 words1, List.all_append, w_t1, w_t2]
  rfl
set_option maxRecDepth 65536 in
theorem w_case : (Jvm.Cond.and given_1 narrow_1).before args0 about1 = true := by decide +kernel
theorem w_applies : (headSpec (Jvm.Cond.code x code maxLocals ret :: tables_1) room_1).applies x e0.platform about1 = true :=
  (Spec.applies_iff w_frames).mpr ⟨w_running, w_runnable, w_alone, w_named, w_hears, w_ripe, w_room, w_tables⟩
theorem atStart : AtStart classFile x code maxLocals ret World_1 tables_1 room_1 Calls_1 rest_1 Pre_1 launch0 p0 e0 about1 theMethod args0 below0 :=
  ⟨lists_1, trivial, launch0.admits_env _ _ _, launch0.least_env, fairChoices_fair.cas, fairChoices_fair.clock, w_frames, w_args, w_heap, w_applies, trivial, trivial, w_case⟩
end start1
theorem witness_1 : WitnessClaimed_1 := ⟨start1.p0, start1.e0, start1.about1, start1.theMethod, start1.args0, start1.below0, start1.atStart⟩
end Jvm.Pilot.@@N@@
