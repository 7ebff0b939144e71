import JvmDerived
import JvmDerived.Pilot.@@N@@Statement
import JvmDerived.Pilot.@@N@@Code
set_option linter.unusedVariables false
set_option linter.unusedSimpArgs false
namespace Jvm.Pilot.@@N@@
open Jvm Jvm.ClassFile Sem Op Lib Jvm.Free Jvm.Stand Jvm.LawKit Jvm.RoadKit Bundle Jvm.Pilot.@@N@@.Jvm.D
theorem own_lt32 {a b : Int32} : a < b ↔ a.toInt < b.toInt := Int32.lt_iff_toInt_lt
theorem own_eq32 {a b : Int32} : a = b ↔ a.toInt = b.toInt := Int32.toInt_inj.symm
theorem own_lt64 {a b : Int64} : a < b ↔ a.toInt < b.toInt := Int64.lt_iff_toInt_lt
theorem own_eq64 {a b : Int64} : a = b ↔ a.toInt = b.toInt := Int64.toInt_inj.symm
theorem own_tri64 (a b : Int64) : (a < b ∧ ¬ b < a ∧ ¬ b = a ∧ ¬ a = b) ∨ (b < a ∧ ¬ a < b ∧ ¬ a = b ∧ ¬ b = a) ∨ a = b := by
  rw [own_lt64, own_lt64, own_eq64, own_eq64]; omega
theorem own_tri32 (a b : Int32) : (a < b ∧ ¬ b < a ∧ ¬ b = a ∧ ¬ a = b) ∨ (b < a ∧ ¬ a < b ∧ ¬ a = b ∧ ¬ b = a) ∨ a = b := by
  rw [own_lt32, own_lt32, own_eq32, own_eq32]; omega
theorem d2_0 : decode jdk_30_method_1_code 0 = .ok (.aload_n 0, 1) := by decide +kernel
theorem d2_1 : decode jdk_30_method_1_code 1 = .ok (.invokespecial 1, 3) := by decide +kernel
def Q_rm2 (Z : State) (o0 : Addr) (h0 : Heap) (n0 : Nat) (v : Option Value) (h : Heap) (L : List Loc) : Prop := v = none ∧ Fr n0 L ∧ h = h0
theorem pn_2 : plainName "java/lang/Record" = true := by first | (simp [plainName, overriddenIn]; done) | decide +kernel
theorem ef_2 (m : MethodId) (x0 : Addr) : entryFrame m #[(.ref x0)] 1 = mkF m 0 #[.val (.ref x0)] [] := by first | (simp [entryFrame, mkF, argsToLocals, Value.category]; done) | rfl
theorem d2_4 : decode jdk_30_method_1_code 4 = .ok (.return_, 1) := by decide +kernel
set_option maxRecDepth 65536 in
set_option maxHeartbeats 40000000 in
theorem rm2 (l : Launch) (Z : State) (a0 : Array Value) (hw : ∀ d ∈ tables_1, d.before a0 Z = true) (ws : List Jvm.Cond) (o0 : Addr) (h0 : Heap) (n0 : Nat) (Z0 : n0 ≤ h0.size) :
    MetFree l (⟨"java/lang/Record", "<init>", "()V"⟩ : MethodName) (head1 (Jvm.Cond.code (⟨"java/lang/Record", "<init>", "()V"⟩ : MethodName) jdk_30_method_1_code 1 none :: ws) ({ frames := 1, cells := 0, slots := 0, locals := 12 } : Room)) (fun a U => a = #[(.ref o0)] ∧ Z.Warmed39 U.vm ∧ U.heap = h0) (fun _ _ _ _ _ => True) (fun _ U o U' => ∃ v L, o = .returned v ∧ Q_rm2 Z o0 h0 n0 v U'.heap L ∧ FrameEnd U o U' L ({ frames := 1, cells := 0, slots := 0, locals := 12 } : Room).cells ({ frames := 1, cells := 0, slots := 0, locals := 12 } : Room).slots) := by
  refine MetFree.of_bodySF (plainFor_of_name pn_2) hisR ?_
  intro p e s m args below meth c s₁ Bd hml0 hP hK
  obtain ⟨rfl, hZ, hh⟩ := hP
  have hx := Bd.exec
  have hby := Bd.bytes
  have hml : c.maxLocals = 1 := hml0
  have hown : s.vm.findClass "java/lang/Record" = some m.cls := findClass_of_methodNamed Bd.named
  have hnm := (name_of_methodNamed Bd.named Bd.method).1
  have X0 : Stand p l e ({ frames := 1, cells := 0, slots := 0, locals := 12 } : Room) s m #[(.ref o0)] below meth c s₁ [] 0 0 := Stand.of_body Bd
  have e0 : s₁.heap = h0 := by rw [← hh, Bd.state]; rfl
  have N0 := Fr.nil n0
  have Kp0 : Keep h0 h0 [] := Keep.refl _ _
  have K0 : Steps p.tables e below (s₁.setTop (entryFrame m #[(.ref o0)] 1)) (s₁.setTop (mkF m 0 #[.val (.ref o0)] [])) := castTop (ef_2 m o0) (Steps.refl _)
  have K1 : Steps p.tables e below _ (s₁.setTop (mkF m 1 #[.val (.ref o0)] [(.ref o0)])) := K0.trans (by
    show Steps p.tables e below (s₁.setTop (mkF m 0 #[.val (.ref o0)] [])) _
    refine XS.aloadN X0.here hx rfl (hb hby d2_0) rfl rfl ?_
    show Steps p.tables e below (s₁.setTop (mkF m 1 #[.val (.ref o0)] [(.ref o0)])) _
    exact Steps.refl _)
  obtain ⟨T2, X2, e2, st2⟩ := initO X0 hx hZ hown (hw _ (List.mem_of_getElem? (i := 11) rfl)) (hw _ (List.mem_of_getElem? (i := 12) rfl)) (hw _ (List.mem_of_getElem? (i := 13) rfl)) e0 (g := (mkF m 1 #[.val (.ref o0)] [(.ref o0)])) rfl (by rw [hml]; rfl) rfl (hb hby d2_1) (by decide) (W := 0) (by show 2 * 0 + _ ≤ _; exact Nat.le_of_eq rfl) (by decide)
  have K3 : Steps p.tables e below _ (T2.setTop (mkF m 4 #[.val (.ref o0)] [])) := K1.trans (st2 _ (Steps.refl _))
  obtain ⟨fs, hr, hrun, hended, hW, hsame⟩ := X2.leave (v := none) (fun _ => rfl)
  refine ⟨_, _, K3.trans (X2.returnOut hx Bd.returns (hb hby d2_4) hr), hrun, hended, _, _, rfl, ?_, ⟨_, rfl⟩, hW, hsame.mono (by decide) (by first | decide | omega)⟩
  show Q_rm2 Z o0 h0 n0 _ T2.heap _
  rw [e2]
  exact ⟨rfl, N0, rfl⟩
theorem d1_0 : decode prog_34_method_1_code 0 = .ok (.aload_n 0, 1) := by decide +kernel
theorem pd_0 : parseMethodDescriptor "()V" = some ⟨[], none⟩ := by decide +kernel
theorem d1_1 : decode prog_34_method_1_code 1 = .ok (.invokespecial 1, 3) := by decide +kernel
theorem d1_4 : decode prog_34_method_1_code 4 = .ok (.aload_n 0, 1) := by decide +kernel
theorem d1_5 : decode prog_34_method_1_code 5 = .ok (.iload_n 1, 1) := by decide +kernel
theorem d1_6 : decode prog_34_method_1_code 6 = .ok (.putfield 7, 3) := by decide +kernel
theorem d1_9 : decode prog_34_method_1_code 9 = .ok (.aload_n 0, 1) := by decide +kernel
theorem d1_10 : decode prog_34_method_1_code 10 = .ok (.iload_n 2, 1) := by decide +kernel
theorem d1_11 : decode prog_34_method_1_code 11 = .ok (.putfield 13, 3) := by decide +kernel
def Q_rm1 (Z : State) (o0 : Addr) (p1 : Int32) (p2 : Int32) (u3_bits : Value) (u4_signed : Value) (h0 : Heap) (n0 : Nat) (v : Option Value) (h : Heap) (L : List Loc) : Prop := v = none ∧ Fr n0 L ∧ Keep h0 h [o0] ∧ Exa Z h o0 "com/example/relinduct/relinduct/cfa/IntegerType" ∧ Fld Z h o0 "com/example/relinduct/relinduct/cfa/IntegerType" "bits" "I" (.int p1) ∧ Fld Z h o0 "com/example/relinduct/relinduct/cfa/IntegerType" "signed" "Z" (.int (p2 &&& 1))
theorem pn_1 : plainName "com/example/relinduct/relinduct/cfa/IntegerType" = true := by first | (simp [plainName, overriddenIn]; done) | decide +kernel
theorem ef_1 (m : MethodId) (x0 : Addr) (x1 : Int32) (x2 : Int32) : entryFrame m #[(.ref x0), (.int x1), (.int x2)] 3 = mkF m 0 #[.val (.ref x0), .val (.int x1), .val (.int x2)] [] := by first | (simp [entryFrame, mkF, argsToLocals, Value.category]; done) | rfl
theorem d1_14 : decode prog_34_method_1_code 14 = .ok (.return_, 1) := by decide +kernel
set_option maxRecDepth 65536 in
set_option maxHeartbeats 40000000 in
theorem rm1 (l : Launch) (Z : State) (a0 : Array Value) (hw : ∀ d ∈ tables_1, d.before a0 Z = true) (ws : List Jvm.Cond) (o0 : Addr) (p1 : Int32) (p2 : Int32) (u3_bits : Value) (u4_signed : Value) (h0 : Heap) (n0 : Nat) (Z0 : n0 ≤ h0.size) (g_o0 : n0 ≤ o0) (E_o0 : Exa Z h0 o0 "com/example/relinduct/relinduct/cfa/IntegerType") (F_bits_o0 : Fld Z h0 o0 "com/example/relinduct/relinduct/cfa/IntegerType" "bits" "I" u3_bits) (F_signed_o0 : Fld Z h0 o0 "com/example/relinduct/relinduct/cfa/IntegerType" "signed" "Z" u4_signed) :
    MetFree l (⟨"com/example/relinduct/relinduct/cfa/IntegerType", "<init>", "(IZ)V"⟩ : MethodName) (head1 (Jvm.Cond.code (⟨"com/example/relinduct/relinduct/cfa/IntegerType", "<init>", "(IZ)V"⟩ : MethodName) prog_34_method_1_code 3 none :: ws) ({ frames := 2, cells := 0, slots := 0, locals := 24 } : Room)) (fun a U => a = #[(.ref o0), (.int p1), (.int p2)] ∧ Z.Warmed39 U.vm ∧ U.heap = h0) (fun _ _ _ _ _ => True) (fun _ U o U' => ∃ v L, o = .returned v ∧ Q_rm1 Z o0 p1 p2 u3_bits u4_signed h0 n0 v U'.heap L ∧ FrameEnd U o U' L ({ frames := 2, cells := 0, slots := 0, locals := 24 } : Room).cells ({ frames := 2, cells := 0, slots := 0, locals := 24 } : Room).slots) := by
  refine MetFree.of_bodySF (plainFor_of_name pn_1) hisR ?_
  intro p e s m args below meth c s₁ Bd hml0 hP hK
  obtain ⟨rfl, hZ, hh⟩ := hP
  have hx := Bd.exec
  have hby := Bd.bytes
  have hml : c.maxLocals = 3 := hml0
  have hown : s.vm.findClass "com/example/relinduct/relinduct/cfa/IntegerType" = some m.cls := findClass_of_methodNamed Bd.named
  have hnm := (name_of_methodNamed Bd.named Bd.method).1
  have X0 : Stand p l e ({ frames := 2, cells := 0, slots := 0, locals := 24 } : Room) s m #[(.ref o0), (.int p1), (.int p2)] below meth c s₁ [] 0 0 := Stand.of_body Bd
  have e0 : s₁.heap = h0 := by rw [← hh, Bd.state]; rfl
  have N0 := Fr.nil n0
  have Kp0 : Keep h0 h0 [o0] := Keep.refl _ _
  have K0 : Steps p.tables e below (s₁.setTop (entryFrame m #[(.ref o0), (.int p1), (.int p2)] 3)) (s₁.setTop (mkF m 0 #[.val (.ref o0), .val (.int p1), .val (.int p2)] [])) := castTop (ef_1 m o0 p1 p2) (Steps.refl _)
  have K1 : Steps p.tables e below _ (s₁.setTop (mkF m 1 #[.val (.ref o0), .val (.int p1), .val (.int p2)] [(.ref o0)])) := K0.trans (by
    show Steps p.tables e below (s₁.setTop (mkF m 0 #[.val (.ref o0), .val (.int p1), .val (.int p2)] [])) _
    refine XS.aloadN X0.here hx rfl (hb hby d1_0) rfl rfl ?_
    show Steps p.tables e below (s₁.setTop (mkF m 1 #[.val (.ref o0), .val (.int p1), .val (.int p2)] [(.ref o0)])) _
    exact Steps.refl _)
  obtain ⟨_, _, ⟨T2, L2, k2, n2⟩, -, X2, ⟨Lc2, hQ2, l2, y2, z2⟩, st2⟩ := X0.specialBack hx (y := (⟨"java/lang/Record", "<init>", "()V"⟩ : MethodName)) rfl hown (mvT hZ (hw _ (List.mem_of_getElem? (i := 6) rfl))) (mvT hZ (hw _ (List.mem_of_getElem? (i := 7) rfl))) (mvT hZ (hw _ (List.mem_of_getElem? (i := 10) rfl))) (by decide) (backOf (W := 0) (rm2 l Z a0 hw [] o0 h0 n0 Z0 ) hZ (hw _ (List.mem_of_getElem? (i := 10) rfl)) (hw _ (List.mem_of_getElem? (i := 9) rfl)) (by decide) (by decide)) (g := (mkF m 1 #[.val (.ref o0), .val (.int p1), .val (.int p2)] [(.ref o0)])) rfl (by rw [hml]; rfl) K1 (a := o0) (argsL := []) (rest := []) (lenOf pd_0 rfl) rfl (by show 2 * 0 + _ ≤ _; exact Nat.le_of_eq rfl) (hb hby d1_1) (fun _ _ => ⟨rfl, e0, (by decide : 0 + 0 ≤ _), (by decide : 0 + 0 ≤ _)⟩)
  dsimp only [Pt.U, Pt.locs, Pt.cells, Pt.slots] at X2 l2 y2 z2 st2 hQ2
  subst l2 y2 z2
  obtain ⟨rfl, N2, eh2⟩ := hQ2
  have N2' := Fr.app N0 N2
  have K3 : Steps p.tables e below _ (T2.setTop (mkF m 4 #[.val (.ref o0), .val (.int p1), .val (.int p2)] [])) := st2
  have K4 : Steps p.tables e below _ (T2.setTop (mkF m 6 #[.val (.ref o0), .val (.int p1), .val (.int p2)] [(.int p1), (.ref o0)])) := K3.trans (by
    show Steps p.tables e below (T2.setTop (mkF m 4 #[.val (.ref o0), .val (.int p1), .val (.int p2)] [])) _
    refine XS.aloadN X2.here hx rfl (hb hby d1_4) rfl rfl ?_
    show Steps p.tables e below (T2.setTop (mkF m 5 #[.val (.ref o0), .val (.int p1), .val (.int p2)] [(.ref o0)])) _
    refine XS.iloadN X2.here hx rfl (hb hby d1_5) rfl ?_
    show Steps p.tables e below (T2.setTop (mkF m 6 #[.val (.ref o0), .val (.int p1), .val (.int p2)] [(.int p1), (.ref o0)])) _
    exact Steps.refl _)
  obtain ⟨T5, h5, X5, e5, W5, st5⟩ := putF X2 hx hZ hown (host := "") (Or.inl (hw _ (List.mem_of_getElem? (i := 14) rfl))) Via.refl eh2 F_bits_o0 E_o0 (Or.inr ⟨(hw _ (List.mem_of_getElem? (i := 15) rfl)), rfl, hnm⟩) (hw _ (List.mem_of_getElem? (i := 1) rfl)) (ty := .int) (by decide) rfl rfl (g := (mkF m 6 #[.val (.ref o0), .val (.int p1), .val (.int p2)] [(.int p1), (.ref o0)])) rfl rfl (hb hby d1_6)
  have K6 : Steps p.tables e below _ (T5.setTop (mkF m 9 #[.val (.ref o0), .val (.int p1), .val (.int p2)] [])) := K4.trans (st5 _ (Steps.refl _))
  have Fw5 : Fld Z h5 o0 "com/example/relinduct/relinduct/cfa/IntegerType" "bits" "I" (.int p1) := F_bits_o0.same W5
  have N5 := Fr.snoc X5 N2' g_o0
  have K7 : Steps p.tables e below _ (T5.setTop (mkF m 11 #[.val (.ref o0), .val (.int p1), .val (.int p2)] [(.int p2), (.ref o0)])) := K6.trans (by
    show Steps p.tables e below (T5.setTop (mkF m 9 #[.val (.ref o0), .val (.int p1), .val (.int p2)] [])) _
    refine XS.aloadN X5.here hx rfl (hb hby d1_9) rfl rfl ?_
    show Steps p.tables e below (T5.setTop (mkF m 10 #[.val (.ref o0), .val (.int p1), .val (.int p2)] [(.ref o0)])) _
    refine XS.iloadN X5.here hx rfl (hb hby d1_10) rfl ?_
    show Steps p.tables e below (T5.setTop (mkF m 11 #[.val (.ref o0), .val (.int p1), .val (.int p2)] [(.int p2), (.ref o0)])) _
    exact Steps.refl _)
  have E_8 : Exa Z h5 o0 "com/example/relinduct/relinduct/cfa/IntegerType" := (E_o0.wr W5)
  have F_9 : Fld Z h5 o0 "com/example/relinduct/relinduct/cfa/IntegerType" "signed" "Z" u4_signed := (F_signed_o0.other W5 (Or.inr (slot_ne (Or.inr (hw _ (List.mem_of_getElem? (i := 17) rfl))) (Or.inr (hw _ (List.mem_of_getElem? (i := 15) rfl))) (by decide) (t := .boolean) (t' := .int) (by decide) (by decide))))
  obtain ⟨T10, h10, X10, e10, W10, st10⟩ := putFN X5 hx hZ hown (hw _ (List.mem_of_getElem? (i := 16) rfl)) Via.refl e5 F_9 E_8 (Or.inr ⟨(hw _ (List.mem_of_getElem? (i := 17) rfl)), rfl, hnm⟩) (hw _ (List.mem_of_getElem? (i := 1) rfl)) (ty := .boolean) (v' := (.int (p2 &&& 1))) (by decide) rfl (fits_nar_bool _) (g := (mkF m 11 #[.val (.ref o0), .val (.int p1), .val (.int p2)] [(.int p2), (.ref o0)])) rfl rfl (hb hby d1_11)
  have K11 : Steps p.tables e below _ (T10.setTop (mkF m 14 #[.val (.ref o0), .val (.int p1), .val (.int p2)] [])) := K7.trans (st10 _ (Steps.refl _))
  have Fw10 : Fld Z h10 o0 "com/example/relinduct/relinduct/cfa/IntegerType" "signed" "Z" (.int (p2 &&& 1)) := F_9.same W10
  have N10 := Fr.snoc X10 N5 g_o0
  obtain ⟨fs, hr, hrun, hended, hW, hsame⟩ := X10.leave (v := none) (fun _ => rfl)
  have K_12 : Keep h0 h10 [o0] := ((Kp0.wr W5 (Or.inl (List.mem_of_getElem? (i := 0) rfl))).wr W10 (Or.inl (List.mem_of_getElem? (i := 0) rfl)))
  have E_13 : Exa Z h10 o0 "com/example/relinduct/relinduct/cfa/IntegerType" := (E_8.wr W10)
  have F_14 : Fld Z h10 o0 "com/example/relinduct/relinduct/cfa/IntegerType" "bits" "I" (.int p1) := (Fw5.other W10 (Or.inr (slot_ne (Or.inr (hw _ (List.mem_of_getElem? (i := 15) rfl))) (Or.inr (hw _ (List.mem_of_getElem? (i := 17) rfl))) (by decide) (t := .int) (t' := .boolean) (by decide) (by decide))))
  refine ⟨_, _, K11.trans (X10.returnOut hx Bd.returns (hb hby d1_14) hr), hrun, hended, _, _, rfl, ?_, ⟨_, rfl⟩, hW, hsame.mono (by decide) (by first | decide | omega)⟩
  show Q_rm1 Z o0 p1 p2 u3_bits u4_signed h0 n0 _ T10.heap _
  rw [e10]
  exact ⟨rfl, N10, K_12, E_13, F_14, Fw10⟩
theorem d4_0 : decode prog_34_method_2_code 0 = .ok (.aload_n 0, 1) := by decide +kernel
theorem d4_1 : decode prog_34_method_2_code 1 = .ok (.getfield 13, 3) := by decide +kernel
theorem d4_4 : decode prog_34_method_2_code 4 = .ok (.aload_n 1, 1) := by decide +kernel
theorem d4_5 : decode prog_34_method_2_code 5 = .ok (.getfield 13, 3) := by decide +kernel
theorem d4_8 : decode prog_34_method_2_code 8 = .ok (.if_icmp .ne 23, 3) := by decide +kernel
theorem d4_11 : decode prog_34_method_2_code 11 = .ok (.aload_n 0, 1) := by decide +kernel
theorem d4_12 : decode prog_34_method_2_code 12 = .ok (.getfield 7, 3) := by decide +kernel
theorem d4_15 : decode prog_34_method_2_code 15 = .ok (.aload_n 1, 1) := by decide +kernel
theorem d4_16 : decode prog_34_method_2_code 16 = .ok (.getfield 7, 3) := by decide +kernel
theorem d4_19 : decode prog_34_method_2_code 19 = .ok (.if_icmp .lt 7, 3) := by decide +kernel
theorem d4_26 : decode prog_34_method_2_code 26 = .ok (.aload_n 1, 1) := by decide +kernel
theorem d4_22 : decode prog_34_method_2_code 22 = .ok (.aload_n 0, 1) := by decide +kernel
theorem d4_23 : decode prog_34_method_2_code 23 = .ok (.goto 4, 3) := by decide +kernel
theorem d4_27 : decode prog_34_method_2_code 27 = .ok (.astore_n 2, 1) := by decide +kernel
theorem d4_28 : decode prog_34_method_2_code 28 = .ok (.goto 49, 3) := by decide +kernel
theorem d4_31 : decode prog_34_method_2_code 31 = .ok (.aload_n 0, 1) := by decide +kernel
theorem d4_32 : decode prog_34_method_2_code 32 = .ok (.getfield 13, 3) := by decide +kernel
theorem d4_35 : decode prog_34_method_2_code 35 = .ok (.ifCond .eq 7, 3) := by decide +kernel
theorem d4_42 : decode prog_34_method_2_code 42 = .ok (.aload_n 1, 1) := by decide +kernel
theorem d4_43 : decode prog_34_method_2_code 43 = .ok (.astore_n 3, 1) := by decide +kernel
theorem d4_44 : decode prog_34_method_2_code 44 = .ok (.aload_n 0, 1) := by decide +kernel
theorem d4_45 : decode prog_34_method_2_code 45 = .ok (.getfield 13, 3) := by decide +kernel
theorem d4_48 : decode prog_34_method_2_code 48 = .ok (.ifCond .eq 7, 3) := by decide +kernel
theorem d4_55 : decode prog_34_method_2_code 55 = .ok (.aload_n 0, 1) := by decide +kernel
theorem d4_56 : decode prog_34_method_2_code 56 = .ok (.astore 4, 2) := by decide +kernel
theorem d4_58 : decode prog_34_method_2_code 58 = .ok (.aload_n 3, 1) := by decide +kernel
theorem d4_59 : decode prog_34_method_2_code 59 = .ok (.getfield 7, 3) := by decide +kernel
theorem d4_62 : decode prog_34_method_2_code 62 = .ok (.aload 4, 2) := by decide +kernel
theorem d4_64 : decode prog_34_method_2_code 64 = .ok (.getfield 7, 3) := by decide +kernel
theorem d4_67 : decode prog_34_method_2_code 67 = .ok (.if_icmp .le 7, 3) := by decide +kernel
theorem d4_70 : decode prog_34_method_2_code 70 = .ok (.aload_n 3, 1) := by decide +kernel
theorem d4_71 : decode prog_34_method_2_code 71 = .ok (.goto 5, 3) := by decide +kernel
theorem d4_74 : decode prog_34_method_2_code 74 = .ok (.aload 4, 2) := by decide +kernel
theorem d4_76 : decode prog_34_method_2_code 76 = .ok (.astore_n 2, 1) := by decide +kernel
theorem d4_38 : decode prog_34_method_2_code 38 = .ok (.aload_n 0, 1) := by decide +kernel
theorem d4_39 : decode prog_34_method_2_code 39 = .ok (.goto 4, 3) := by decide +kernel
theorem d4_51 : decode prog_34_method_2_code 51 = .ok (.aload_n 1, 1) := by decide +kernel
theorem d4_52 : decode prog_34_method_2_code 52 = .ok (.goto 4, 3) := by decide +kernel
theorem d4_77 : decode prog_34_method_2_code 77 = .ok (.aload_n 2, 1) := by decide +kernel
def Q_rm4 (Z : State) (o0 : Addr) (o1 : Addr) (w2_signed : Int32) (w3_signed : Int32) (w4_bits : Int32) (w5_bits : Int32) (h0 : Heap) (n0 : Nat) (v : Option Value) (h : Heap) (L : List Loc) : Prop := v = some (.ref (if w2_signed = w3_signed then (if w4_bits < w5_bits then o1 else o0) else (if w2_signed = (0 : Int32) then (if w4_bits < w5_bits then o1 else o0) else (if w5_bits < w4_bits then o0 else o1)))) ∧ Fr n0 L ∧ h = h0
theorem pn_4 : plainName "com/example/relinduct/relinduct/cfa/IntegerType" = true := by first | (simp [plainName, overriddenIn]; done) | decide +kernel
theorem ef_4 (m : MethodId) (x0 : Addr) (x1 : Addr) : entryFrame m #[(.ref x0), (.ref x1)] 5 = mkF m 0 #[.val (.ref x0), .val (.ref x1), .unset, .unset, .unset] [] := by first | (simp [entryFrame, mkF, argsToLocals, Value.category]; done) | rfl
theorem d4_78 : decode prog_34_method_2_code 78 = .ok (.areturn, 1) := by decide +kernel
set_option maxRecDepth 65536 in
set_option maxHeartbeats 40000000 in
theorem rm4 (l : Launch) (Z : State) (a0 : Array Value) (hw : ∀ d ∈ tables_1, d.before a0 Z = true) (ws : List Jvm.Cond) (o0 : Addr) (o1 : Addr) (w2_signed : Int32) (w3_signed : Int32) (w4_bits : Int32) (w5_bits : Int32) (h0 : Heap) (n0 : Nat) (Z0 : n0 ≤ h0.size) (F_signed_o0 : Fld Z h0 o0 "com/example/relinduct/relinduct/cfa/IntegerType" "signed" "Z" (.int w2_signed)) (F_signed_o1 : Fld Z h0 o1 "com/example/relinduct/relinduct/cfa/IntegerType" "signed" "Z" (.int w3_signed)) (F_bits_o0 : Fld Z h0 o0 "com/example/relinduct/relinduct/cfa/IntegerType" "bits" "I" (.int w4_bits)) (F_bits_o1 : Fld Z h0 o1 "com/example/relinduct/relinduct/cfa/IntegerType" "bits" "I" (.int w5_bits)) :
    MetFree l (⟨"com/example/relinduct/relinduct/cfa/IntegerType", "common", "(Lcom/example/relinduct/relinduct/cfa/IntegerType;)Lcom/example/relinduct/relinduct/cfa/IntegerType;"⟩ : MethodName) (head1 (Jvm.Cond.code (⟨"com/example/relinduct/relinduct/cfa/IntegerType", "common", "(Lcom/example/relinduct/relinduct/cfa/IntegerType;)Lcom/example/relinduct/relinduct/cfa/IntegerType;"⟩ : MethodName) prog_34_method_2_code 5 (some (.object "com/example/relinduct/relinduct/cfa/IntegerType")) :: ws) ({ frames := 0, cells := 0, slots := 0, locals := 0 } : Room)) (fun a U => a = #[(.ref o0), (.ref o1)] ∧ Z.Warmed39 U.vm ∧ U.heap = h0) (fun _ _ _ _ _ => True) (fun _ U o U' => ∃ v L, o = .returned v ∧ Q_rm4 Z o0 o1 w2_signed w3_signed w4_bits w5_bits h0 n0 v U'.heap L ∧ FrameEnd U o U' L ({ frames := 0, cells := 0, slots := 0, locals := 0 } : Room).cells ({ frames := 0, cells := 0, slots := 0, locals := 0 } : Room).slots) := by
  refine MetFree.of_bodySF (plainFor_of_name pn_4) hisR ?_
  intro p e s m args below meth c s₁ Bd hml0 hP hK
  obtain ⟨rfl, hZ, hh⟩ := hP
  have hx := Bd.exec
  have hby := Bd.bytes
  have hml : c.maxLocals = 5 := hml0
  have hown : s.vm.findClass "com/example/relinduct/relinduct/cfa/IntegerType" = some m.cls := findClass_of_methodNamed Bd.named
  have hnm := (name_of_methodNamed Bd.named Bd.method).1
  have X0 : Stand p l e ({ frames := 0, cells := 0, slots := 0, locals := 0 } : Room) s m #[(.ref o0), (.ref o1)] below meth c s₁ [] 0 0 := Stand.of_body Bd
  have e0 : s₁.heap = h0 := by rw [← hh, Bd.state]; rfl
  have N0 := Fr.nil n0
  have Kp0 : Keep h0 h0 [] := Keep.refl _ _
  have K0 : Steps p.tables e below (s₁.setTop (entryFrame m #[(.ref o0), (.ref o1)] 5)) (s₁.setTop (mkF m 0 #[.val (.ref o0), .val (.ref o1), .unset, .unset, .unset] [])) := castTop (ef_4 m o0 o1) (Steps.refl _)
  have K1 : Steps p.tables e below _ (s₁.setTop (mkF m 1 #[.val (.ref o0), .val (.ref o1), .unset, .unset, .unset] [(.ref o0)])) := K0.trans (by
    show Steps p.tables e below (s₁.setTop (mkF m 0 #[.val (.ref o0), .val (.ref o1), .unset, .unset, .unset] [])) _
    refine XS.aloadN X0.here hx rfl (hb hby d4_0) rfl rfl ?_
    show Steps p.tables e below (s₁.setTop (mkF m 1 #[.val (.ref o0), .val (.ref o1), .unset, .unset, .unset] [(.ref o0)])) _
    exact Steps.refl _)
  obtain ⟨T2, X2, e2, st2⟩ := getF X0 hx hZ hown (host := "") (Or.inl (hw _ (List.mem_of_getElem? (i := 16) rfl))) Via.refl e0 F_signed_o0 (g := (mkF m 1 #[.val (.ref o0), .val (.ref o1), .unset, .unset, .unset] [(.ref o0)])) rfl rfl (hb hby d4_1)
  have K3 : Steps p.tables e below _ (T2.setTop (mkF m 4 #[.val (.ref o0), .val (.ref o1), .unset, .unset, .unset] [(.int w2_signed)])) := K1.trans (st2 _ (Steps.refl _))
  have K4 : Steps p.tables e below _ (T2.setTop (mkF m 5 #[.val (.ref o0), .val (.ref o1), .unset, .unset, .unset] [(.ref o1), (.int w2_signed)])) := K3.trans (by
    show Steps p.tables e below (T2.setTop (mkF m 4 #[.val (.ref o0), .val (.ref o1), .unset, .unset, .unset] [(.int w2_signed)])) _
    refine XS.aloadN X2.here hx rfl (hb hby d4_4) rfl rfl ?_
    show Steps p.tables e below (T2.setTop (mkF m 5 #[.val (.ref o0), .val (.ref o1), .unset, .unset, .unset] [(.ref o1), (.int w2_signed)])) _
    exact Steps.refl _)
  obtain ⟨T5, X5, e5, st5⟩ := getF X2 hx hZ hown (host := "") (Or.inl (hw _ (List.mem_of_getElem? (i := 16) rfl))) Via.refl e2 F_signed_o1 (g := (mkF m 5 #[.val (.ref o0), .val (.ref o1), .unset, .unset, .unset] [(.ref o1), (.int w2_signed)])) rfl rfl (hb hby d4_5)
  have K6 : Steps p.tables e below _ (T5.setTop (mkF m 8 #[.val (.ref o0), .val (.ref o1), .unset, .unset, .unset] [(.int w3_signed), (.int w2_signed)])) := K4.trans (st5 _ (Steps.refl _))
  obtain ⟨T7, L7, o7_0, s7_1, s7_2, X7, e7, N7, ho7_0, hs7_1, hs7_2, S7⟩ : ∃ (T7 : State) (L7 : List Loc) (o7_0 : Addr) (s7_1 : Slot) (s7_2 : Slot), Stand p l e ({ frames := 0, cells := 0, slots := 0, locals := 0 } : Room) s m #[(.ref o0), (.ref o1)] below meth c T7 L7 0 0 ∧ T7.heap = h0 ∧ Fr n0 L7 ∧ (if w2_signed = w3_signed then (if w4_bits < w5_bits then o1 else o0) else (if w2_signed = (0 : Int32) then (if w4_bits < w5_bits then o1 else o0) else (if w5_bits < w4_bits then o0 else o1))) = o7_0 ∧ (if w2_signed = w3_signed then .unset else (if w2_signed = (0 : Int32) then .val (.ref o1) else .val (.ref o0))) = s7_1 ∧ (if w2_signed = w3_signed then .unset else (if w2_signed = (0 : Int32) then .val (.ref o0) else .val (.ref o1))) = s7_2 ∧ Steps p.tables e below (T5.setTop (mkF m 8 #[.val (.ref o0), .val (.ref o1), .unset, .unset, .unset] [(.int w3_signed), (.int w2_signed)])) (T7.setTop (mkF m 77 #[.val (.ref o0), .val (.ref o1), .val (.ref o7_0), s7_1, s7_2] [])) := by
    have R7 : Steps p.tables e below (T5.setTop (mkF m 8 #[.val (.ref o0), .val (.ref o1), .unset, .unset, .unset] [(.int w3_signed), (.int w2_signed)])) (T5.setTop (mkF m 8 #[.val (.ref o0), .val (.ref o1), .unset, .unset, .unset] [(.int w3_signed), (.int w2_signed)])) := Steps.refl _
    by_cases hc8 : w2_signed = w3_signed
    · have K8 : Steps p.tables e below _ (T5.setTop (mkF m 12 #[.val (.ref o0), .val (.ref o1), .unset, .unset, .unset] [(.ref o0)])) := R7.trans (by
        show Steps p.tables e below (T5.setTop (mkF m 8 #[.val (.ref o0), .val (.ref o1), .unset, .unset, .unset] [(.int w3_signed), (.int w2_signed)])) _
        refine XS.icmpNo X5.here hx rfl (hb hby d4_8) rfl (teq hc8).2 ?_
        show Steps p.tables e below (T5.setTop (mkF m 11 #[.val (.ref o0), .val (.ref o1), .unset, .unset, .unset] [])) _
        refine XS.aloadN X5.here hx rfl (hb hby d4_11) rfl rfl ?_
        show Steps p.tables e below (T5.setTop (mkF m 12 #[.val (.ref o0), .val (.ref o1), .unset, .unset, .unset] [(.ref o0)])) _
        exact Steps.refl _)
      obtain ⟨T9, X9, e9, st9⟩ := getF X5 hx hZ hown (host := "") (Or.inl (hw _ (List.mem_of_getElem? (i := 14) rfl))) Via.refl e5 F_bits_o0 (g := (mkF m 12 #[.val (.ref o0), .val (.ref o1), .unset, .unset, .unset] [(.ref o0)])) rfl rfl (hb hby d4_12)
      have K10 : Steps p.tables e below _ (T9.setTop (mkF m 15 #[.val (.ref o0), .val (.ref o1), .unset, .unset, .unset] [(.int w4_bits)])) := K8.trans (st9 _ (Steps.refl _))
      have K11 : Steps p.tables e below _ (T9.setTop (mkF m 16 #[.val (.ref o0), .val (.ref o1), .unset, .unset, .unset] [(.ref o1), (.int w4_bits)])) := K10.trans (by
        show Steps p.tables e below (T9.setTop (mkF m 15 #[.val (.ref o0), .val (.ref o1), .unset, .unset, .unset] [(.int w4_bits)])) _
        refine XS.aloadN X9.here hx rfl (hb hby d4_15) rfl rfl ?_
        show Steps p.tables e below (T9.setTop (mkF m 16 #[.val (.ref o0), .val (.ref o1), .unset, .unset, .unset] [(.ref o1), (.int w4_bits)])) _
        exact Steps.refl _)
      obtain ⟨T12, X12, e12, st12⟩ := getF X9 hx hZ hown (host := "") (Or.inl (hw _ (List.mem_of_getElem? (i := 14) rfl))) Via.refl e9 F_bits_o1 (g := (mkF m 16 #[.val (.ref o0), .val (.ref o1), .unset, .unset, .unset] [(.ref o1), (.int w4_bits)])) rfl rfl (hb hby d4_16)
      have K13 : Steps p.tables e below _ (T12.setTop (mkF m 19 #[.val (.ref o0), .val (.ref o1), .unset, .unset, .unset] [(.int w5_bits), (.int w4_bits)])) := K11.trans (st12 _ (Steps.refl _))
      obtain ⟨o14_0, ho14_0, S14⟩ : ∃ (o14_0 : Addr), (if w4_bits < w5_bits then o1 else o0) = o14_0 ∧ Steps p.tables e below (T12.setTop (mkF m 19 #[.val (.ref o0), .val (.ref o1), .unset, .unset, .unset] [(.int w5_bits), (.int w4_bits)])) (T12.setTop (mkF m 27 #[.val (.ref o0), .val (.ref o1), .unset, .unset, .unset] [(.ref o14_0)])) := by
        have R14 : Steps p.tables e below (T12.setTop (mkF m 19 #[.val (.ref o0), .val (.ref o1), .unset, .unset, .unset] [(.int w5_bits), (.int w4_bits)])) (T12.setTop (mkF m 19 #[.val (.ref o0), .val (.ref o1), .unset, .unset, .unset] [(.int w5_bits), (.int w4_bits)])) := Steps.refl _
        by_cases hc19 : w4_bits < w5_bits
        · have K15 : Steps p.tables e below _ (T12.setTop (mkF m 27 #[.val (.ref o0), .val (.ref o1), .unset, .unset, .unset] [(.ref o1)])) := R14.trans (by
            show Steps p.tables e below (T12.setTop (mkF m 19 #[.val (.ref o0), .val (.ref o1), .unset, .unset, .unset] [(.int w5_bits), (.int w4_bits)])) _
            refine XS.icmpYes X12.here hx rfl (pc0 := 19) (pc' := 26) rfl (hb hby d4_19) rfl (tlt hc19).1 (by decide) (by decide) ?_
            show Steps p.tables e below (T12.setTop (mkF m 26 #[.val (.ref o0), .val (.ref o1), .unset, .unset, .unset] [])) _
            refine XS.aloadN X12.here hx rfl (hb hby d4_26) rfl rfl ?_
            show Steps p.tables e below (T12.setTop (mkF m 27 #[.val (.ref o0), .val (.ref o1), .unset, .unset, .unset] [(.ref o1)])) _
            exact Steps.refl _)
          exact ⟨o1, (by rw [if_pos hc19]), K15⟩
        · have K16 : Steps p.tables e below _ (T12.setTop (mkF m 27 #[.val (.ref o0), .val (.ref o1), .unset, .unset, .unset] [(.ref o0)])) := R14.trans (by
            show Steps p.tables e below (T12.setTop (mkF m 19 #[.val (.ref o0), .val (.ref o1), .unset, .unset, .unset] [(.int w5_bits), (.int w4_bits)])) _
            refine XS.icmpNo X12.here hx rfl (hb hby d4_19) rfl (flt hc19).1 ?_
            show Steps p.tables e below (T12.setTop (mkF m 22 #[.val (.ref o0), .val (.ref o1), .unset, .unset, .unset] [])) _
            refine XS.aloadN X12.here hx rfl (hb hby d4_22) rfl rfl ?_
            show Steps p.tables e below (T12.setTop (mkF m 23 #[.val (.ref o0), .val (.ref o1), .unset, .unset, .unset] [(.ref o0)])) _
            refine XS.goto X12.here hx rfl (pc0 := 23) (pc' := 27) rfl (hb hby d4_23) (by decide) (by decide) ?_
            show Steps p.tables e below (T12.setTop (mkF m 27 #[.val (.ref o0), .val (.ref o1), .unset, .unset, .unset] [(.ref o0)])) _
            exact Steps.refl _)
          exact ⟨o0, (by rw [if_neg hc19]), K16⟩
      have K17 := K13.trans S14
      have K18 : Steps p.tables e below _ (T12.setTop (mkF m 77 #[.val (.ref o0), .val (.ref o1), .val (.ref o14_0), .unset, .unset] [])) := K17.trans (by
        show Steps p.tables e below (T12.setTop (mkF m 27 #[.val (.ref o0), .val (.ref o1), .unset, .unset, .unset] [(.ref o14_0)])) _
        refine XS.astoreN X12.here hx rfl (hb hby d4_27) rfl rfl (l' := #[.val (.ref o0), .val (.ref o1), .val (.ref o14_0), .unset, .unset]) rfl ?_
        show Steps p.tables e below (T12.setTop (mkF m 28 #[.val (.ref o0), .val (.ref o1), .val (.ref o14_0), .unset, .unset] [])) _
        refine XS.goto X12.here hx rfl (pc0 := 28) (pc' := 77) rfl (hb hby d4_28) (by decide) (by decide) ?_
        show Steps p.tables e below (T12.setTop (mkF m 77 #[.val (.ref o0), .val (.ref o1), .val (.ref o14_0), .unset, .unset] [])) _
        exact Steps.refl _)
      subst ho14_0
      exact ⟨T12, _, (if w4_bits < w5_bits then o1 else o0), .unset, .unset, X12, e12, N0, (by rw [if_pos hc8]), (by rw [if_pos hc8]), (by rw [if_pos hc8]), K18⟩
    · have K19 : Steps p.tables e below _ (T5.setTop (mkF m 32 #[.val (.ref o0), .val (.ref o1), .unset, .unset, .unset] [(.ref o0)])) := R7.trans (by
        show Steps p.tables e below (T5.setTop (mkF m 8 #[.val (.ref o0), .val (.ref o1), .unset, .unset, .unset] [(.int w3_signed), (.int w2_signed)])) _
        refine XS.icmpYes X5.here hx rfl (pc0 := 8) (pc' := 31) rfl (hb hby d4_8) rfl (feq hc8).2 (by decide) (by decide) ?_
        show Steps p.tables e below (T5.setTop (mkF m 31 #[.val (.ref o0), .val (.ref o1), .unset, .unset, .unset] [])) _
        refine XS.aloadN X5.here hx rfl (hb hby d4_31) rfl rfl ?_
        show Steps p.tables e below (T5.setTop (mkF m 32 #[.val (.ref o0), .val (.ref o1), .unset, .unset, .unset] [(.ref o0)])) _
        exact Steps.refl _)
      obtain ⟨T20, X20, e20, st20⟩ := getF X5 hx hZ hown (host := "") (Or.inl (hw _ (List.mem_of_getElem? (i := 16) rfl))) Via.refl e5 F_signed_o0 (g := (mkF m 32 #[.val (.ref o0), .val (.ref o1), .unset, .unset, .unset] [(.ref o0)])) rfl rfl (hb hby d4_32)
      have K21 : Steps p.tables e below _ (T20.setTop (mkF m 35 #[.val (.ref o0), .val (.ref o1), .unset, .unset, .unset] [(.int w2_signed)])) := K19.trans (st20 _ (Steps.refl _))
      by_cases hc35 : w2_signed = (0 : Int32)
      · have K22 : Steps p.tables e below _ (T20.setTop (mkF m 45 #[.val (.ref o0), .val (.ref o1), .unset, .val (.ref o1), .unset] [(.ref o0)])) := K21.trans (by
          show Steps p.tables e below (T20.setTop (mkF m 35 #[.val (.ref o0), .val (.ref o1), .unset, .unset, .unset] [(.int w2_signed)])) _
          refine XS.ifYes X20.here hx rfl (pc0 := 35) (pc' := 42) rfl (hb hby d4_35) rfl ((if0 _ _).trans (teq hc35).1) (by decide) (by decide) ?_
          show Steps p.tables e below (T20.setTop (mkF m 42 #[.val (.ref o0), .val (.ref o1), .unset, .unset, .unset] [])) _
          refine XS.aloadN X20.here hx rfl (hb hby d4_42) rfl rfl ?_
          show Steps p.tables e below (T20.setTop (mkF m 43 #[.val (.ref o0), .val (.ref o1), .unset, .unset, .unset] [(.ref o1)])) _
          refine XS.astoreN X20.here hx rfl (hb hby d4_43) rfl rfl (l' := #[.val (.ref o0), .val (.ref o1), .unset, .val (.ref o1), .unset]) rfl ?_
          show Steps p.tables e below (T20.setTop (mkF m 44 #[.val (.ref o0), .val (.ref o1), .unset, .val (.ref o1), .unset] [])) _
          refine XS.aloadN X20.here hx rfl (hb hby d4_44) rfl rfl ?_
          show Steps p.tables e below (T20.setTop (mkF m 45 #[.val (.ref o0), .val (.ref o1), .unset, .val (.ref o1), .unset] [(.ref o0)])) _
          exact Steps.refl _)
        obtain ⟨T23, X23, e23, st23⟩ := getF X20 hx hZ hown (host := "") (Or.inl (hw _ (List.mem_of_getElem? (i := 16) rfl))) Via.refl e20 F_signed_o0 (g := (mkF m 45 #[.val (.ref o0), .val (.ref o1), .unset, .val (.ref o1), .unset] [(.ref o0)])) rfl rfl (hb hby d4_45)
        have K24 : Steps p.tables e below _ (T23.setTop (mkF m 48 #[.val (.ref o0), .val (.ref o1), .unset, .val (.ref o1), .unset] [(.int w2_signed)])) := K22.trans (st23 _ (Steps.refl _))
        have K25 : Steps p.tables e below _ (T23.setTop (mkF m 59 #[.val (.ref o0), .val (.ref o1), .unset, .val (.ref o1), .val (.ref o0)] [(.ref o1)])) := K24.trans (by
          show Steps p.tables e below (T23.setTop (mkF m 48 #[.val (.ref o0), .val (.ref o1), .unset, .val (.ref o1), .unset] [(.int w2_signed)])) _
          refine XS.ifYes X23.here hx rfl (pc0 := 48) (pc' := 55) rfl (hb hby d4_48) rfl ((if0 _ _).trans (teq hc35).1) (by decide) (by decide) ?_
          show Steps p.tables e below (T23.setTop (mkF m 55 #[.val (.ref o0), .val (.ref o1), .unset, .val (.ref o1), .unset] [])) _
          refine XS.aloadN X23.here hx rfl (hb hby d4_55) rfl rfl ?_
          show Steps p.tables e below (T23.setTop (mkF m 56 #[.val (.ref o0), .val (.ref o1), .unset, .val (.ref o1), .unset] [(.ref o0)])) _
          refine XS.astore X23.here hx rfl (hb hby d4_56) rfl rfl (l' := #[.val (.ref o0), .val (.ref o1), .unset, .val (.ref o1), .val (.ref o0)]) rfl ?_
          show Steps p.tables e below (T23.setTop (mkF m 58 #[.val (.ref o0), .val (.ref o1), .unset, .val (.ref o1), .val (.ref o0)] [])) _
          refine XS.aloadN X23.here hx rfl (hb hby d4_58) rfl rfl ?_
          show Steps p.tables e below (T23.setTop (mkF m 59 #[.val (.ref o0), .val (.ref o1), .unset, .val (.ref o1), .val (.ref o0)] [(.ref o1)])) _
          exact Steps.refl _)
        obtain ⟨T26, X26, e26, st26⟩ := getF X23 hx hZ hown (host := "") (Or.inl (hw _ (List.mem_of_getElem? (i := 14) rfl))) Via.refl e23 F_bits_o1 (g := (mkF m 59 #[.val (.ref o0), .val (.ref o1), .unset, .val (.ref o1), .val (.ref o0)] [(.ref o1)])) rfl rfl (hb hby d4_59)
        have K27 : Steps p.tables e below _ (T26.setTop (mkF m 62 #[.val (.ref o0), .val (.ref o1), .unset, .val (.ref o1), .val (.ref o0)] [(.int w5_bits)])) := K25.trans (st26 _ (Steps.refl _))
        have K28 : Steps p.tables e below _ (T26.setTop (mkF m 64 #[.val (.ref o0), .val (.ref o1), .unset, .val (.ref o1), .val (.ref o0)] [(.ref o0), (.int w5_bits)])) := K27.trans (by
          show Steps p.tables e below (T26.setTop (mkF m 62 #[.val (.ref o0), .val (.ref o1), .unset, .val (.ref o1), .val (.ref o0)] [(.int w5_bits)])) _
          refine XS.aload X26.here hx rfl (hb hby d4_62) rfl rfl ?_
          show Steps p.tables e below (T26.setTop (mkF m 64 #[.val (.ref o0), .val (.ref o1), .unset, .val (.ref o1), .val (.ref o0)] [(.ref o0), (.int w5_bits)])) _
          exact Steps.refl _)
        obtain ⟨T29, X29, e29, st29⟩ := getF X26 hx hZ hown (host := "") (Or.inl (hw _ (List.mem_of_getElem? (i := 14) rfl))) Via.refl e26 F_bits_o0 (g := (mkF m 64 #[.val (.ref o0), .val (.ref o1), .unset, .val (.ref o1), .val (.ref o0)] [(.ref o0), (.int w5_bits)])) rfl rfl (hb hby d4_64)
        have K30 : Steps p.tables e below _ (T29.setTop (mkF m 67 #[.val (.ref o0), .val (.ref o1), .unset, .val (.ref o1), .val (.ref o0)] [(.int w4_bits), (.int w5_bits)])) := K28.trans (st29 _ (Steps.refl _))
        obtain ⟨o31_0, ho31_0, S31⟩ : ∃ (o31_0 : Addr), (if w4_bits < w5_bits then o1 else o0) = o31_0 ∧ Steps p.tables e below (T29.setTop (mkF m 67 #[.val (.ref o0), .val (.ref o1), .unset, .val (.ref o1), .val (.ref o0)] [(.int w4_bits), (.int w5_bits)])) (T29.setTop (mkF m 76 #[.val (.ref o0), .val (.ref o1), .unset, .val (.ref o1), .val (.ref o0)] [(.ref o31_0)])) := by
          have R31 : Steps p.tables e below (T29.setTop (mkF m 67 #[.val (.ref o0), .val (.ref o1), .unset, .val (.ref o1), .val (.ref o0)] [(.int w4_bits), (.int w5_bits)])) (T29.setTop (mkF m 67 #[.val (.ref o0), .val (.ref o1), .unset, .val (.ref o1), .val (.ref o0)] [(.int w4_bits), (.int w5_bits)])) := Steps.refl _
          by_cases hc67 : w4_bits < w5_bits
          · have K32 : Steps p.tables e below _ (T29.setTop (mkF m 76 #[.val (.ref o0), .val (.ref o1), .unset, .val (.ref o1), .val (.ref o0)] [(.ref o1)])) := R31.trans (by
              show Steps p.tables e below (T29.setTop (mkF m 67 #[.val (.ref o0), .val (.ref o1), .unset, .val (.ref o1), .val (.ref o0)] [(.int w4_bits), (.int w5_bits)])) _
              refine XS.icmpNo X29.here hx rfl (hb hby d4_67) rfl (tlt hc67).2.2.2 ?_
              show Steps p.tables e below (T29.setTop (mkF m 70 #[.val (.ref o0), .val (.ref o1), .unset, .val (.ref o1), .val (.ref o0)] [])) _
              refine XS.aloadN X29.here hx rfl (hb hby d4_70) rfl rfl ?_
              show Steps p.tables e below (T29.setTop (mkF m 71 #[.val (.ref o0), .val (.ref o1), .unset, .val (.ref o1), .val (.ref o0)] [(.ref o1)])) _
              refine XS.goto X29.here hx rfl (pc0 := 71) (pc' := 76) rfl (hb hby d4_71) (by decide) (by decide) ?_
              show Steps p.tables e below (T29.setTop (mkF m 76 #[.val (.ref o0), .val (.ref o1), .unset, .val (.ref o1), .val (.ref o0)] [(.ref o1)])) _
              exact Steps.refl _)
            exact ⟨o1, (by rw [if_pos hc67]), K32⟩
          · have K33 : Steps p.tables e below _ (T29.setTop (mkF m 76 #[.val (.ref o0), .val (.ref o1), .unset, .val (.ref o1), .val (.ref o0)] [(.ref o0)])) := R31.trans (by
              show Steps p.tables e below (T29.setTop (mkF m 67 #[.val (.ref o0), .val (.ref o1), .unset, .val (.ref o1), .val (.ref o0)] [(.int w4_bits), (.int w5_bits)])) _
              refine XS.icmpYes X29.here hx rfl (pc0 := 67) (pc' := 74) rfl (hb hby d4_67) rfl (flt hc67).2.2.2 (by decide) (by decide) ?_
              show Steps p.tables e below (T29.setTop (mkF m 74 #[.val (.ref o0), .val (.ref o1), .unset, .val (.ref o1), .val (.ref o0)] [])) _
              refine XS.aload X29.here hx rfl (hb hby d4_74) rfl rfl ?_
              show Steps p.tables e below (T29.setTop (mkF m 76 #[.val (.ref o0), .val (.ref o1), .unset, .val (.ref o1), .val (.ref o0)] [(.ref o0)])) _
              exact Steps.refl _)
            exact ⟨o0, (by rw [if_neg hc67]), K33⟩
        have K34 := K30.trans S31
        have K35 : Steps p.tables e below _ (T29.setTop (mkF m 77 #[.val (.ref o0), .val (.ref o1), .val (.ref o31_0), .val (.ref o1), .val (.ref o0)] [])) := K34.trans (by
          show Steps p.tables e below (T29.setTop (mkF m 76 #[.val (.ref o0), .val (.ref o1), .unset, .val (.ref o1), .val (.ref o0)] [(.ref o31_0)])) _
          refine XS.astoreN X29.here hx rfl (hb hby d4_76) rfl rfl (l' := #[.val (.ref o0), .val (.ref o1), .val (.ref o31_0), .val (.ref o1), .val (.ref o0)]) rfl ?_
          show Steps p.tables e below (T29.setTop (mkF m 77 #[.val (.ref o0), .val (.ref o1), .val (.ref o31_0), .val (.ref o1), .val (.ref o0)] [])) _
          exact Steps.refl _)
        subst ho31_0
        exact ⟨T29, _, (if w4_bits < w5_bits then o1 else o0), .val (.ref o1), .val (.ref o0), X29, e29, N0, (by rw [if_neg hc8, if_pos hc35]), (by rw [if_neg hc8, if_pos hc35]), (by rw [if_neg hc8, if_pos hc35]), K35⟩
      · have K36 : Steps p.tables e below _ (T20.setTop (mkF m 45 #[.val (.ref o0), .val (.ref o1), .unset, .val (.ref o0), .unset] [(.ref o0)])) := K21.trans (by
          show Steps p.tables e below (T20.setTop (mkF m 35 #[.val (.ref o0), .val (.ref o1), .unset, .unset, .unset] [(.int w2_signed)])) _
          refine XS.ifNo X20.here hx rfl (hb hby d4_35) rfl ((if0 _ _).trans (feq hc35).1) ?_
          show Steps p.tables e below (T20.setTop (mkF m 38 #[.val (.ref o0), .val (.ref o1), .unset, .unset, .unset] [])) _
          refine XS.aloadN X20.here hx rfl (hb hby d4_38) rfl rfl ?_
          show Steps p.tables e below (T20.setTop (mkF m 39 #[.val (.ref o0), .val (.ref o1), .unset, .unset, .unset] [(.ref o0)])) _
          refine XS.goto X20.here hx rfl (pc0 := 39) (pc' := 43) rfl (hb hby d4_39) (by decide) (by decide) ?_
          show Steps p.tables e below (T20.setTop (mkF m 43 #[.val (.ref o0), .val (.ref o1), .unset, .unset, .unset] [(.ref o0)])) _
          refine XS.astoreN X20.here hx rfl (hb hby d4_43) rfl rfl (l' := #[.val (.ref o0), .val (.ref o1), .unset, .val (.ref o0), .unset]) rfl ?_
          show Steps p.tables e below (T20.setTop (mkF m 44 #[.val (.ref o0), .val (.ref o1), .unset, .val (.ref o0), .unset] [])) _
          refine XS.aloadN X20.here hx rfl (hb hby d4_44) rfl rfl ?_
          show Steps p.tables e below (T20.setTop (mkF m 45 #[.val (.ref o0), .val (.ref o1), .unset, .val (.ref o0), .unset] [(.ref o0)])) _
          exact Steps.refl _)
        obtain ⟨T37, X37, e37, st37⟩ := getF X20 hx hZ hown (host := "") (Or.inl (hw _ (List.mem_of_getElem? (i := 16) rfl))) Via.refl e20 F_signed_o0 (g := (mkF m 45 #[.val (.ref o0), .val (.ref o1), .unset, .val (.ref o0), .unset] [(.ref o0)])) rfl rfl (hb hby d4_45)
        have K38 : Steps p.tables e below _ (T37.setTop (mkF m 48 #[.val (.ref o0), .val (.ref o1), .unset, .val (.ref o0), .unset] [(.int w2_signed)])) := K36.trans (st37 _ (Steps.refl _))
        have K39 : Steps p.tables e below _ (T37.setTop (mkF m 59 #[.val (.ref o0), .val (.ref o1), .unset, .val (.ref o0), .val (.ref o1)] [(.ref o0)])) := K38.trans (by
          show Steps p.tables e below (T37.setTop (mkF m 48 #[.val (.ref o0), .val (.ref o1), .unset, .val (.ref o0), .unset] [(.int w2_signed)])) _
          refine XS.ifNo X37.here hx rfl (hb hby d4_48) rfl ((if0 _ _).trans (feq hc35).1) ?_
          show Steps p.tables e below (T37.setTop (mkF m 51 #[.val (.ref o0), .val (.ref o1), .unset, .val (.ref o0), .unset] [])) _
          refine XS.aloadN X37.here hx rfl (hb hby d4_51) rfl rfl ?_
          show Steps p.tables e below (T37.setTop (mkF m 52 #[.val (.ref o0), .val (.ref o1), .unset, .val (.ref o0), .unset] [(.ref o1)])) _
          refine XS.goto X37.here hx rfl (pc0 := 52) (pc' := 56) rfl (hb hby d4_52) (by decide) (by decide) ?_
          show Steps p.tables e below (T37.setTop (mkF m 56 #[.val (.ref o0), .val (.ref o1), .unset, .val (.ref o0), .unset] [(.ref o1)])) _
          refine XS.astore X37.here hx rfl (hb hby d4_56) rfl rfl (l' := #[.val (.ref o0), .val (.ref o1), .unset, .val (.ref o0), .val (.ref o1)]) rfl ?_
          show Steps p.tables e below (T37.setTop (mkF m 58 #[.val (.ref o0), .val (.ref o1), .unset, .val (.ref o0), .val (.ref o1)] [])) _
          refine XS.aloadN X37.here hx rfl (hb hby d4_58) rfl rfl ?_
          show Steps p.tables e below (T37.setTop (mkF m 59 #[.val (.ref o0), .val (.ref o1), .unset, .val (.ref o0), .val (.ref o1)] [(.ref o0)])) _
          exact Steps.refl _)
        obtain ⟨T40, X40, e40, st40⟩ := getF X37 hx hZ hown (host := "") (Or.inl (hw _ (List.mem_of_getElem? (i := 14) rfl))) Via.refl e37 F_bits_o0 (g := (mkF m 59 #[.val (.ref o0), .val (.ref o1), .unset, .val (.ref o0), .val (.ref o1)] [(.ref o0)])) rfl rfl (hb hby d4_59)
        have K41 : Steps p.tables e below _ (T40.setTop (mkF m 62 #[.val (.ref o0), .val (.ref o1), .unset, .val (.ref o0), .val (.ref o1)] [(.int w4_bits)])) := K39.trans (st40 _ (Steps.refl _))
        have K42 : Steps p.tables e below _ (T40.setTop (mkF m 64 #[.val (.ref o0), .val (.ref o1), .unset, .val (.ref o0), .val (.ref o1)] [(.ref o1), (.int w4_bits)])) := K41.trans (by
          show Steps p.tables e below (T40.setTop (mkF m 62 #[.val (.ref o0), .val (.ref o1), .unset, .val (.ref o0), .val (.ref o1)] [(.int w4_bits)])) _
          refine XS.aload X40.here hx rfl (hb hby d4_62) rfl rfl ?_
          show Steps p.tables e below (T40.setTop (mkF m 64 #[.val (.ref o0), .val (.ref o1), .unset, .val (.ref o0), .val (.ref o1)] [(.ref o1), (.int w4_bits)])) _
          exact Steps.refl _)
        obtain ⟨T43, X43, e43, st43⟩ := getF X40 hx hZ hown (host := "") (Or.inl (hw _ (List.mem_of_getElem? (i := 14) rfl))) Via.refl e40 F_bits_o1 (g := (mkF m 64 #[.val (.ref o0), .val (.ref o1), .unset, .val (.ref o0), .val (.ref o1)] [(.ref o1), (.int w4_bits)])) rfl rfl (hb hby d4_64)
        have K44 : Steps p.tables e below _ (T43.setTop (mkF m 67 #[.val (.ref o0), .val (.ref o1), .unset, .val (.ref o0), .val (.ref o1)] [(.int w5_bits), (.int w4_bits)])) := K42.trans (st43 _ (Steps.refl _))
        obtain ⟨o45_0, ho45_0, S45⟩ : ∃ (o45_0 : Addr), (if w5_bits < w4_bits then o0 else o1) = o45_0 ∧ Steps p.tables e below (T43.setTop (mkF m 67 #[.val (.ref o0), .val (.ref o1), .unset, .val (.ref o0), .val (.ref o1)] [(.int w5_bits), (.int w4_bits)])) (T43.setTop (mkF m 76 #[.val (.ref o0), .val (.ref o1), .unset, .val (.ref o0), .val (.ref o1)] [(.ref o45_0)])) := by
          have R45 : Steps p.tables e below (T43.setTop (mkF m 67 #[.val (.ref o0), .val (.ref o1), .unset, .val (.ref o0), .val (.ref o1)] [(.int w5_bits), (.int w4_bits)])) (T43.setTop (mkF m 67 #[.val (.ref o0), .val (.ref o1), .unset, .val (.ref o0), .val (.ref o1)] [(.int w5_bits), (.int w4_bits)])) := Steps.refl _
          by_cases hc67 : w5_bits < w4_bits
          · have K46 : Steps p.tables e below _ (T43.setTop (mkF m 76 #[.val (.ref o0), .val (.ref o1), .unset, .val (.ref o0), .val (.ref o1)] [(.ref o0)])) := R45.trans (by
              show Steps p.tables e below (T43.setTop (mkF m 67 #[.val (.ref o0), .val (.ref o1), .unset, .val (.ref o0), .val (.ref o1)] [(.int w5_bits), (.int w4_bits)])) _
              refine XS.icmpNo X43.here hx rfl (hb hby d4_67) rfl (tlt hc67).2.2.2 ?_
              show Steps p.tables e below (T43.setTop (mkF m 70 #[.val (.ref o0), .val (.ref o1), .unset, .val (.ref o0), .val (.ref o1)] [])) _
              refine XS.aloadN X43.here hx rfl (hb hby d4_70) rfl rfl ?_
              show Steps p.tables e below (T43.setTop (mkF m 71 #[.val (.ref o0), .val (.ref o1), .unset, .val (.ref o0), .val (.ref o1)] [(.ref o0)])) _
              refine XS.goto X43.here hx rfl (pc0 := 71) (pc' := 76) rfl (hb hby d4_71) (by decide) (by decide) ?_
              show Steps p.tables e below (T43.setTop (mkF m 76 #[.val (.ref o0), .val (.ref o1), .unset, .val (.ref o0), .val (.ref o1)] [(.ref o0)])) _
              exact Steps.refl _)
            exact ⟨o0, (by rw [if_pos hc67]), K46⟩
          · have K47 : Steps p.tables e below _ (T43.setTop (mkF m 76 #[.val (.ref o0), .val (.ref o1), .unset, .val (.ref o0), .val (.ref o1)] [(.ref o1)])) := R45.trans (by
              show Steps p.tables e below (T43.setTop (mkF m 67 #[.val (.ref o0), .val (.ref o1), .unset, .val (.ref o0), .val (.ref o1)] [(.int w5_bits), (.int w4_bits)])) _
              refine XS.icmpYes X43.here hx rfl (pc0 := 67) (pc' := 74) rfl (hb hby d4_67) rfl (flt hc67).2.2.2 (by decide) (by decide) ?_
              show Steps p.tables e below (T43.setTop (mkF m 74 #[.val (.ref o0), .val (.ref o1), .unset, .val (.ref o0), .val (.ref o1)] [])) _
              refine XS.aload X43.here hx rfl (hb hby d4_74) rfl rfl ?_
              show Steps p.tables e below (T43.setTop (mkF m 76 #[.val (.ref o0), .val (.ref o1), .unset, .val (.ref o0), .val (.ref o1)] [(.ref o1)])) _
              exact Steps.refl _)
            exact ⟨o1, (by rw [if_neg hc67]), K47⟩
        have K48 := K44.trans S45
        have K49 : Steps p.tables e below _ (T43.setTop (mkF m 77 #[.val (.ref o0), .val (.ref o1), .val (.ref o45_0), .val (.ref o0), .val (.ref o1)] [])) := K48.trans (by
          show Steps p.tables e below (T43.setTop (mkF m 76 #[.val (.ref o0), .val (.ref o1), .unset, .val (.ref o0), .val (.ref o1)] [(.ref o45_0)])) _
          refine XS.astoreN X43.here hx rfl (hb hby d4_76) rfl rfl (l' := #[.val (.ref o0), .val (.ref o1), .val (.ref o45_0), .val (.ref o0), .val (.ref o1)]) rfl ?_
          show Steps p.tables e below (T43.setTop (mkF m 77 #[.val (.ref o0), .val (.ref o1), .val (.ref o45_0), .val (.ref o0), .val (.ref o1)] [])) _
          exact Steps.refl _)
        subst ho45_0
        exact ⟨T43, _, (if w5_bits < w4_bits then o0 else o1), .val (.ref o0), .val (.ref o1), X43, e43, N0, (by rw [if_neg hc8, if_neg hc35]), (by rw [if_neg hc8, if_neg hc35]), (by rw [if_neg hc8, if_neg hc35]), K49⟩
  have K50 := K6.trans S7
  have K51 : Steps p.tables e below _ (T7.setTop (mkF m 78 #[.val (.ref o0), .val (.ref o1), .val (.ref o7_0), s7_1, s7_2] [(.ref o7_0)])) := K50.trans (by
    show Steps p.tables e below (T7.setTop (mkF m 77 #[.val (.ref o0), .val (.ref o1), .val (.ref o7_0), s7_1, s7_2] [])) _
    refine XS.aloadN X7.here hx rfl (hb hby d4_77) rfl rfl ?_
    show Steps p.tables e below (T7.setTop (mkF m 78 #[.val (.ref o0), .val (.ref o1), .val (.ref o7_0), s7_1, s7_2] [(.ref o7_0)])) _
    exact Steps.refl _)
  subst hs7_2
  subst hs7_1
  subst ho7_0
  obtain ⟨fs, hr, hrun, hended, hW, hsame⟩ := X7.leave (v := some (.ref (if w2_signed = w3_signed then (if w4_bits < w5_bits then o1 else o0) else (if w2_signed = (0 : Int32) then (if w4_bits < w5_bits then o1 else o0) else (if w5_bits < w4_bits then o0 else o1))))) (fun h => by rw [Bd.returns] at h; cases h)
  refine ⟨_, _, K51.trans (retOut X7 hx Bd.returns rfl (Or.inr (Or.inr (Or.inr (Or.inr ⟨rfl, rfl, rfl⟩)))) (hb hby d4_78) hr), hrun, hended, _, _, rfl, ?_, ⟨_, rfl⟩, hW, hsame.mono (by decide) (by first | decide | omega)⟩
  show Q_rm4 Z o0 o1 w2_signed w3_signed w4_bits w5_bits h0 n0 _ T7.heap _
  rw [e7]
  exact ⟨rfl, N7, rfl⟩
theorem d5_0 : decode jdk_29_method_65_code 0 = .ok (.iload_n 0, 1) := by decide +kernel
theorem d5_1 : decode jdk_29_method_65_code 1 = .ok (.iload_n 1, 1) := by decide +kernel
theorem d5_2 : decode jdk_29_method_65_code 2 = .ok (.if_icmp .lt 7, 3) := by decide +kernel
theorem d5_9 : decode jdk_29_method_65_code 9 = .ok (.iload_n 1, 1) := by decide +kernel
theorem d5_5 : decode jdk_29_method_65_code 5 = .ok (.iload_n 0, 1) := by decide +kernel
theorem d5_6 : decode jdk_29_method_65_code 6 = .ok (.goto 4, 3) := by decide +kernel
def Q_rm5 (Z : State) (p0 : Int32) (p1 : Int32) (h0 : Heap) (n0 : Nat) (v : Option Value) (h : Heap) (L : List Loc) : Prop := v = some (.int (if p0 < p1 then p1 else p0)) ∧ Fr n0 L ∧ h = h0
theorem ef_5 (m : MethodId) (x0 : Int32) (x1 : Int32) : entryFrame m #[(.int x0), (.int x1)] 2 = mkF m 0 #[.val (.int x0), .val (.int x1)] [] := by first | (simp [entryFrame, mkF, argsToLocals, Value.category]; done) | rfl
theorem d5_10 : decode jdk_29_method_65_code 10 = .ok (.ireturn, 1) := by decide +kernel
set_option maxRecDepth 65536 in
set_option maxHeartbeats 40000000 in
theorem rm5 (l : Launch) (Z : State) (a0 : Array Value) (hw : ∀ d ∈ tables_1, d.before a0 Z = true) (ws : List Jvm.Cond) (p0 : Int32) (p1 : Int32) (h0 : Heap) (n0 : Nat) (Z0 : n0 ≤ h0.size) :
    MetFree l (⟨"java/lang/Math", "max", "(II)I"⟩ : MethodName) (head1 (Jvm.Cond.code (⟨"java/lang/Math", "max", "(II)I"⟩ : MethodName) jdk_29_method_65_code 2 (some .int) :: ws) ({ frames := 0, cells := 0, slots := 0, locals := 0 } : Room)) (fun a U => a = #[(.int p0), (.int p1)] ∧ Z.Warmed39 U.vm ∧ U.heap = h0) (fun _ _ _ _ _ => True) (fun _ U o U' => ∃ v L, o = .returned v ∧ Q_rm5 Z p0 p1 h0 n0 v U'.heap L ∧ FrameEnd U o U' L ({ frames := 0, cells := 0, slots := 0, locals := 0 } : Room).cells ({ frames := 0, cells := 0, slots := 0, locals := 0 } : Room).slots) := by
  refine MetFree.of_bodySF (Jvm.Free.JP.mathPlain rfl (by decide +kernel)) hisR ?_
  intro p e s m args below meth c s₁ Bd hml0 hP hK
  obtain ⟨rfl, hZ, hh⟩ := hP
  have hx := Bd.exec
  have hby := Bd.bytes
  have hml : c.maxLocals = 2 := hml0
  have hown : s.vm.findClass "java/lang/Math" = some m.cls := findClass_of_methodNamed Bd.named
  have hnm := (name_of_methodNamed Bd.named Bd.method).1
  have X0 : Stand p l e ({ frames := 0, cells := 0, slots := 0, locals := 0 } : Room) s m #[(.int p0), (.int p1)] below meth c s₁ [] 0 0 := Stand.of_body Bd
  have e0 : s₁.heap = h0 := by rw [← hh, Bd.state]; rfl
  have N0 := Fr.nil n0
  have Kp0 : Keep h0 h0 [] := Keep.refl _ _
  have K0 : Steps p.tables e below (s₁.setTop (entryFrame m #[(.int p0), (.int p1)] 2)) (s₁.setTop (mkF m 0 #[.val (.int p0), .val (.int p1)] [])) := castTop (ef_5 m p0 p1) (Steps.refl _)
  have K1 : Steps p.tables e below _ (s₁.setTop (mkF m 2 #[.val (.int p0), .val (.int p1)] [(.int p1), (.int p0)])) := K0.trans (by
    show Steps p.tables e below (s₁.setTop (mkF m 0 #[.val (.int p0), .val (.int p1)] [])) _
    refine XS.iloadN X0.here hx rfl (hb hby d5_0) rfl ?_
    show Steps p.tables e below (s₁.setTop (mkF m 1 #[.val (.int p0), .val (.int p1)] [(.int p0)])) _
    refine XS.iloadN X0.here hx rfl (hb hby d5_1) rfl ?_
    show Steps p.tables e below (s₁.setTop (mkF m 2 #[.val (.int p0), .val (.int p1)] [(.int p1), (.int p0)])) _
    exact Steps.refl _)
  obtain ⟨v2_0, hv2_0, S2⟩ : ∃ (v2_0 : Int32), (if p0 < p1 then p1 else p0) = v2_0 ∧ Steps p.tables e below (s₁.setTop (mkF m 2 #[.val (.int p0), .val (.int p1)] [(.int p1), (.int p0)])) (s₁.setTop (mkF m 10 #[.val (.int p0), .val (.int p1)] [(.int v2_0)])) := by
    have R2 : Steps p.tables e below (s₁.setTop (mkF m 2 #[.val (.int p0), .val (.int p1)] [(.int p1), (.int p0)])) (s₁.setTop (mkF m 2 #[.val (.int p0), .val (.int p1)] [(.int p1), (.int p0)])) := Steps.refl _
    by_cases hc2 : p0 < p1
    · have K3 : Steps p.tables e below _ (s₁.setTop (mkF m 10 #[.val (.int p0), .val (.int p1)] [(.int p1)])) := R2.trans (by
        show Steps p.tables e below (s₁.setTop (mkF m 2 #[.val (.int p0), .val (.int p1)] [(.int p1), (.int p0)])) _
        refine XS.icmpYes X0.here hx rfl (pc0 := 2) (pc' := 9) rfl (hb hby d5_2) rfl (tlt hc2).1 (by decide) (by decide) ?_
        show Steps p.tables e below (s₁.setTop (mkF m 9 #[.val (.int p0), .val (.int p1)] [])) _
        refine XS.iloadN X0.here hx rfl (hb hby d5_9) rfl ?_
        show Steps p.tables e below (s₁.setTop (mkF m 10 #[.val (.int p0), .val (.int p1)] [(.int p1)])) _
        exact Steps.refl _)
      exact ⟨p1, (by rw [if_pos hc2]), K3⟩
    · have K4 : Steps p.tables e below _ (s₁.setTop (mkF m 10 #[.val (.int p0), .val (.int p1)] [(.int p0)])) := R2.trans (by
        show Steps p.tables e below (s₁.setTop (mkF m 2 #[.val (.int p0), .val (.int p1)] [(.int p1), (.int p0)])) _
        refine XS.icmpNo X0.here hx rfl (hb hby d5_2) rfl (flt hc2).1 ?_
        show Steps p.tables e below (s₁.setTop (mkF m 5 #[.val (.int p0), .val (.int p1)] [])) _
        refine XS.iloadN X0.here hx rfl (hb hby d5_5) rfl ?_
        show Steps p.tables e below (s₁.setTop (mkF m 6 #[.val (.int p0), .val (.int p1)] [(.int p0)])) _
        refine XS.goto X0.here hx rfl (pc0 := 6) (pc' := 10) rfl (hb hby d5_6) (by decide) (by decide) ?_
        show Steps p.tables e below (s₁.setTop (mkF m 10 #[.val (.int p0), .val (.int p1)] [(.int p0)])) _
        exact Steps.refl _)
      exact ⟨p0, (by rw [if_neg hc2]), K4⟩
  have K5 := K1.trans S2
  subst hv2_0
  obtain ⟨fs, hr, hrun, hended, hW, hsame⟩ := X0.leave (v := some (.int (if p0 < p1 then p1 else p0))) (fun h => by rw [Bd.returns] at h; cases h)
  refine ⟨_, _, K5.trans (retOut X0 hx Bd.returns rfl (Or.inl ⟨rfl, Or.inl rfl, _, rfl⟩) (hb hby d5_10) hr), hrun, hended, _, _, rfl, ?_, ⟨_, rfl⟩, hW, hsame.mono (by decide) (by first | decide | omega)⟩
  show Q_rm5 Z p0 p1 h0 n0 _ s₁.heap _
  rw [e0]
  exact ⟨rfl, N0, rfl⟩
theorem d6_0 : decode prog_34_method_10_code 0 = .ok (.aload_n 0, 1) := by decide +kernel
theorem d6_1 : decode prog_34_method_10_code 1 = .ok (.getfield 7, 3) := by decide +kernel
def Q_rm6 (Z : State) (o0 : Addr) (w1_bits : Int32) (h0 : Heap) (n0 : Nat) (v : Option Value) (h : Heap) (L : List Loc) : Prop := v = some (.int w1_bits) ∧ Fr n0 L ∧ h = h0
theorem pn_6 : plainName "com/example/relinduct/relinduct/cfa/IntegerType" = true := by first | (simp [plainName, overriddenIn]; done) | decide +kernel
theorem ef_6 (m : MethodId) (x0 : Addr) : entryFrame m #[(.ref x0)] 1 = mkF m 0 #[.val (.ref x0)] [] := by first | (simp [entryFrame, mkF, argsToLocals, Value.category]; done) | rfl
theorem d6_4 : decode prog_34_method_10_code 4 = .ok (.ireturn, 1) := by decide +kernel
set_option maxRecDepth 65536 in
set_option maxHeartbeats 40000000 in
theorem rm6 (l : Launch) (Z : State) (a0 : Array Value) (hw : ∀ d ∈ tables_1, d.before a0 Z = true) (ws : List Jvm.Cond) (o0 : Addr) (w1_bits : Int32) (h0 : Heap) (n0 : Nat) (Z0 : n0 ≤ h0.size) (F_bits_o0 : Fld Z h0 o0 "com/example/relinduct/relinduct/cfa/IntegerType" "bits" "I" (.int w1_bits)) :
    MetFree l (⟨"com/example/relinduct/relinduct/cfa/IntegerType", "bits", "()I"⟩ : MethodName) (head1 (Jvm.Cond.code (⟨"com/example/relinduct/relinduct/cfa/IntegerType", "bits", "()I"⟩ : MethodName) prog_34_method_10_code 1 (some .int) :: ws) ({ frames := 0, cells := 0, slots := 0, locals := 0 } : Room)) (fun a U => a = #[(.ref o0)] ∧ Z.Warmed39 U.vm ∧ U.heap = h0) (fun _ _ _ _ _ => True) (fun _ U o U' => ∃ v L, o = .returned v ∧ Q_rm6 Z o0 w1_bits h0 n0 v U'.heap L ∧ FrameEnd U o U' L ({ frames := 0, cells := 0, slots := 0, locals := 0 } : Room).cells ({ frames := 0, cells := 0, slots := 0, locals := 0 } : Room).slots) := by
  refine MetFree.of_bodySF (plainFor_of_name pn_6) hisR ?_
  intro p e s m args below meth c s₁ Bd hml0 hP hK
  obtain ⟨rfl, hZ, hh⟩ := hP
  have hx := Bd.exec
  have hby := Bd.bytes
  have hml : c.maxLocals = 1 := hml0
  have hown : s.vm.findClass "com/example/relinduct/relinduct/cfa/IntegerType" = some m.cls := findClass_of_methodNamed Bd.named
  have hnm := (name_of_methodNamed Bd.named Bd.method).1
  have X0 : Stand p l e ({ frames := 0, cells := 0, slots := 0, locals := 0 } : Room) s m #[(.ref o0)] below meth c s₁ [] 0 0 := Stand.of_body Bd
  have e0 : s₁.heap = h0 := by rw [← hh, Bd.state]; rfl
  have N0 := Fr.nil n0
  have Kp0 : Keep h0 h0 [] := Keep.refl _ _
  have K0 : Steps p.tables e below (s₁.setTop (entryFrame m #[(.ref o0)] 1)) (s₁.setTop (mkF m 0 #[.val (.ref o0)] [])) := castTop (ef_6 m o0) (Steps.refl _)
  have K1 : Steps p.tables e below _ (s₁.setTop (mkF m 1 #[.val (.ref o0)] [(.ref o0)])) := K0.trans (by
    show Steps p.tables e below (s₁.setTop (mkF m 0 #[.val (.ref o0)] [])) _
    refine XS.aloadN X0.here hx rfl (hb hby d6_0) rfl rfl ?_
    show Steps p.tables e below (s₁.setTop (mkF m 1 #[.val (.ref o0)] [(.ref o0)])) _
    exact Steps.refl _)
  obtain ⟨T2, X2, e2, st2⟩ := getF X0 hx hZ hown (host := "") (Or.inl (hw _ (List.mem_of_getElem? (i := 14) rfl))) Via.refl e0 F_bits_o0 (g := (mkF m 1 #[.val (.ref o0)] [(.ref o0)])) rfl rfl (hb hby d6_1)
  have K3 : Steps p.tables e below _ (T2.setTop (mkF m 4 #[.val (.ref o0)] [(.int w1_bits)])) := K1.trans (st2 _ (Steps.refl _))
  obtain ⟨fs, hr, hrun, hended, hW, hsame⟩ := X2.leave (v := some (.int w1_bits)) (fun h => by rw [Bd.returns] at h; cases h)
  refine ⟨_, _, K3.trans (retOut X2 hx Bd.returns rfl (Or.inl ⟨rfl, Or.inl rfl, _, rfl⟩) (hb hby d6_4) hr), hrun, hended, _, _, rfl, ?_, ⟨_, rfl⟩, hW, hsame.mono (by decide) (by first | decide | omega)⟩
  show Q_rm6 Z o0 w1_bits h0 n0 _ T2.heap _
  rw [e2]
  exact ⟨rfl, N0, rfl⟩
theorem d7_0 : decode prog_34_method_11_code 0 = .ok (.aload_n 0, 1) := by decide +kernel
theorem d7_1 : decode prog_34_method_11_code 1 = .ok (.getfield 13, 3) := by decide +kernel
def Q_rm7 (Z : State) (o0 : Addr) (w1_signed : Int32) (h0 : Heap) (n0 : Nat) (v : Option Value) (h : Heap) (L : List Loc) : Prop := v = some (.int (w1_signed &&& 1)) ∧ Fr n0 L ∧ h = h0
theorem pn_7 : plainName "com/example/relinduct/relinduct/cfa/IntegerType" = true := by first | (simp [plainName, overriddenIn]; done) | decide +kernel
theorem ef_7 (m : MethodId) (x0 : Addr) : entryFrame m #[(.ref x0)] 1 = mkF m 0 #[.val (.ref x0)] [] := by first | (simp [entryFrame, mkF, argsToLocals, Value.category]; done) | rfl
theorem d7_4 : decode prog_34_method_11_code 4 = .ok (.ireturn, 1) := by decide +kernel
set_option maxRecDepth 65536 in
set_option maxHeartbeats 40000000 in
theorem rm7 (l : Launch) (Z : State) (a0 : Array Value) (hw : ∀ d ∈ tables_1, d.before a0 Z = true) (ws : List Jvm.Cond) (o0 : Addr) (w1_signed : Int32) (h0 : Heap) (n0 : Nat) (Z0 : n0 ≤ h0.size) (F_signed_o0 : Fld Z h0 o0 "com/example/relinduct/relinduct/cfa/IntegerType" "signed" "Z" (.int w1_signed)) :
    MetFree l (⟨"com/example/relinduct/relinduct/cfa/IntegerType", "signed", "()Z"⟩ : MethodName) (head1 (Jvm.Cond.code (⟨"com/example/relinduct/relinduct/cfa/IntegerType", "signed", "()Z"⟩ : MethodName) prog_34_method_11_code 1 (some .boolean) :: ws) ({ frames := 0, cells := 0, slots := 0, locals := 0 } : Room)) (fun a U => a = #[(.ref o0)] ∧ Z.Warmed39 U.vm ∧ U.heap = h0) (fun _ _ _ _ _ => True) (fun _ U o U' => ∃ v L, o = .returned v ∧ Q_rm7 Z o0 w1_signed h0 n0 v U'.heap L ∧ FrameEnd U o U' L ({ frames := 0, cells := 0, slots := 0, locals := 0 } : Room).cells ({ frames := 0, cells := 0, slots := 0, locals := 0 } : Room).slots) := by
  refine MetFree.of_bodySF (plainFor_of_name pn_7) hisR ?_
  intro p e s m args below meth c s₁ Bd hml0 hP hK
  obtain ⟨rfl, hZ, hh⟩ := hP
  have hx := Bd.exec
  have hby := Bd.bytes
  have hml : c.maxLocals = 1 := hml0
  have hown : s.vm.findClass "com/example/relinduct/relinduct/cfa/IntegerType" = some m.cls := findClass_of_methodNamed Bd.named
  have hnm := (name_of_methodNamed Bd.named Bd.method).1
  have X0 : Stand p l e ({ frames := 0, cells := 0, slots := 0, locals := 0 } : Room) s m #[(.ref o0)] below meth c s₁ [] 0 0 := Stand.of_body Bd
  have e0 : s₁.heap = h0 := by rw [← hh, Bd.state]; rfl
  have N0 := Fr.nil n0
  have Kp0 : Keep h0 h0 [] := Keep.refl _ _
  have K0 : Steps p.tables e below (s₁.setTop (entryFrame m #[(.ref o0)] 1)) (s₁.setTop (mkF m 0 #[.val (.ref o0)] [])) := castTop (ef_7 m o0) (Steps.refl _)
  have K1 : Steps p.tables e below _ (s₁.setTop (mkF m 1 #[.val (.ref o0)] [(.ref o0)])) := K0.trans (by
    show Steps p.tables e below (s₁.setTop (mkF m 0 #[.val (.ref o0)] [])) _
    refine XS.aloadN X0.here hx rfl (hb hby d7_0) rfl rfl ?_
    show Steps p.tables e below (s₁.setTop (mkF m 1 #[.val (.ref o0)] [(.ref o0)])) _
    exact Steps.refl _)
  obtain ⟨T2, X2, e2, st2⟩ := getF X0 hx hZ hown (host := "") (Or.inl (hw _ (List.mem_of_getElem? (i := 16) rfl))) Via.refl e0 F_signed_o0 (g := (mkF m 1 #[.val (.ref o0)] [(.ref o0)])) rfl rfl (hb hby d7_1)
  have K3 : Steps p.tables e below _ (T2.setTop (mkF m 4 #[.val (.ref o0)] [(.int w1_signed)])) := K1.trans (st2 _ (Steps.refl _))
  obtain ⟨fs, hr, hrun, hended, hW, hsame⟩ := X2.leave (v := some (.int (w1_signed &&& 1))) (fun h => by rw [Bd.returns] at h; cases h)
  refine ⟨_, _, K3.trans (retN X2 hx (t := .boolean) Bd.returns (by simp) (hb hby d7_4) hr), hrun, hended, _, _, rfl, ?_, ⟨_, rfl⟩, hW, hsame.mono (by decide) (by first | decide | omega)⟩
  show Q_rm7 Z o0 w1_signed h0 n0 _ T2.heap _
  rw [e2]
  exact ⟨rfl, N0, rfl⟩
theorem pd_1 : parseMethodDescriptor "(IZ)V" = some ⟨[.int, .boolean], none⟩ := by decide +kernel
theorem pd_2 : parseMethodDescriptor "(Lcom/example/relinduct/relinduct/cfa/IntegerType;)Lcom/example/relinduct/relinduct/cfa/IntegerType;" = some ⟨[(.object "com/example/relinduct/relinduct/cfa/IntegerType")], some (.object "com/example/relinduct/relinduct/cfa/IntegerType")⟩ := by decide +kernel
theorem pd_3 : parseMethodDescriptor "(II)I" = some ⟨[.int, .int], some .int⟩ := by decide +kernel
theorem pd_4 : parseMethodDescriptor "()I" = some ⟨[], some .int⟩ := by decide +kernel
theorem pd_5 : parseMethodDescriptor "()Z" = some ⟨[], some .boolean⟩ := by decide +kernel
def Q_rm0 (n0 : Nat) (v : Option Value) (L : List Loc) : Prop := v = some (.int 1) ∧ Fr n0 L
theorem pn_0 : plainName "com/example/relinduct/relinduct/cfa/IntegerTypeCommonPinLaw" = true := by first | (simp [plainName, overriddenIn]; done) | decide +kernel
theorem ef_0 (m : MethodId) (x0 : Int32) (x1 : Int32) (x2 : Int32) : entryFrame m #[(.int x0), (.int x1), (.int x2)] maxLocals = mkF m 0 #[.val (.int x0), .val (.int x1), .val (.int x2), .unset, .unset, .unset, .unset, .unset, .unset, .unset] [] := by first | (simp [entryFrame, mkF, argsToLocals, Value.category, maxLocals]; done) | rfl
set_option maxRecDepth 65536 in
set_option maxHeartbeats 4000000 in
theorem own_law_0 (p0 : Int32) (p1 : Int32) (p2 : Int32) (v2_0 : Int32) (v7_0 : Int32) (r35 : Int32) (v38_0 : Int32) (v60_0 : Int32) (b12 : Addr) (b19 : Addr) (hv2_0 : (if (p2 &&& (1 : Int32)) = (0 : Int32) then (0 : Int32) else (1 : Int32)) = v2_0) (hv7_0 : (if (p2 &&& (2 : Int32)) = (0 : Int32) then (0 : Int32) else (1 : Int32)) = v7_0) (hr35 : (if p0 < p1 then p1 else p0) = r35) (hv38_0 : (if v2_0 = (0 : Int32) then (if v7_0 = (0 : Int32) then (0 : Int32) else (if p0 < p1 then (1 : Int32) else (0 : Int32))) else (if v7_0 = (0 : Int32) then (if p1 < p0 then (1 : Int32) else (0 : Int32)) else (1 : Int32))) = v38_0) (hv60_0 : (if p1 = r35 then (if ((v7_0 &&& 1) &&& 1) = v38_0 then (1 : Int32) else (0 : Int32)) else (0 : Int32)) = v60_0) (hsel : (if (v2_0 &&& 1) = (v7_0 &&& 1) then (if p0 < p1 then b19 else b12) else (if (v2_0 &&& 1) = (0 : Int32) then (if p0 < p1 then b19 else b12) else (if p1 < p0 then b12 else b19))) = b19) (ne_b12_b19 : b12 ≠ b19) : (v60_0 &&& 1) = (1 : Int32) := by
  have hne := ne_b12_b19
  rcases own_tri32 p0 p1 with ⟨a, b, c, d⟩ | ⟨a, b, c, d⟩ | a
  · by_cases h1 : (p2 &&& (1 : Int32)) = (0 : Int32) <;> by_cases h2 : (p2 &&& (2 : Int32)) = (0 : Int32) <;> simp only [h1, h2, if_true, if_false] at hv2_0 hv7_0 <;> subst hv2_0 hv7_0 <;> simp +decide only [a, b, c, d, if_true, if_false] at hsel hr35 hv38_0 <;> first | exact absurd hsel hne | exact absurd hsel.symm hne | (subst hr35 hv38_0 hv60_0; rw [if_pos rfl]; decide)
  · by_cases h1 : (p2 &&& (1 : Int32)) = (0 : Int32) <;> by_cases h2 : (p2 &&& (2 : Int32)) = (0 : Int32) <;> simp only [h1, h2, if_true, if_false] at hv2_0 hv7_0 <;> subst hv2_0 hv7_0 <;> simp +decide only [a, b, c, d, if_true, if_false] at hsel hr35 hv38_0 <;> first | exact absurd hsel hne | exact absurd hsel.symm hne | (subst hr35 hv38_0 hv60_0; rw [if_pos rfl]; decide)
  · subst a
    by_cases h1 : (p2 &&& (1 : Int32)) = (0 : Int32) <;> by_cases h2 : (p2 &&& (2 : Int32)) = (0 : Int32) <;> simp only [h1, h2, if_true, if_false] at hv2_0 hv7_0 <;> subst hv2_0 hv7_0 <;> simp +decide only [Int32.lt_irrefl, if_true, if_false] at hsel hr35 hv38_0 <;> first | exact absurd hsel hne | exact absurd hsel.symm hne | (subst hr35 hv38_0 hv60_0; rw [if_pos rfl]; decide)
set_option maxRecDepth 65536 in
set_option maxHeartbeats 4000000 in
theorem own_law_1 (p0 : Int32) (p1 : Int32) (p2 : Int32) (v2_0 : Int32) (v7_0 : Int32) (r72 : Int32) (v75_0 : Int32) (v97_0 : Int32) (b12 : Addr) (b19 : Addr) (hv2_0 : (if (p2 &&& (1 : Int32)) = (0 : Int32) then (0 : Int32) else (1 : Int32)) = v2_0) (hv7_0 : (if (p2 &&& (2 : Int32)) = (0 : Int32) then (0 : Int32) else (1 : Int32)) = v7_0) (hr72 : (if p0 < p1 then p1 else p0) = r72) (hv75_0 : (if v2_0 = (0 : Int32) then (if v7_0 = (0 : Int32) then (0 : Int32) else (if p0 < p1 then (1 : Int32) else (0 : Int32))) else (if v7_0 = (0 : Int32) then (if p1 < p0 then (1 : Int32) else (0 : Int32)) else (1 : Int32))) = v75_0) (hv97_0 : (if p0 = r72 then (if ((v2_0 &&& 1) &&& 1) = v75_0 then (1 : Int32) else (0 : Int32)) else (0 : Int32)) = v97_0) (hsel : (if (v2_0 &&& 1) = (v7_0 &&& 1) then (if p0 < p1 then b19 else b12) else (if (v2_0 &&& 1) = (0 : Int32) then (if p0 < p1 then b19 else b12) else (if p1 < p0 then b12 else b19))) = b12) (ne_b12_b19 : b12 ≠ b19) : (v97_0 &&& 1) = (1 : Int32) := by
  have hne := ne_b12_b19
  rcases own_tri32 p0 p1 with ⟨a, b, c, d⟩ | ⟨a, b, c, d⟩ | a
  · by_cases h1 : (p2 &&& (1 : Int32)) = (0 : Int32) <;> by_cases h2 : (p2 &&& (2 : Int32)) = (0 : Int32) <;> simp only [h1, h2, if_true, if_false] at hv2_0 hv7_0 <;> subst hv2_0 hv7_0 <;> simp +decide only [a, b, c, d, if_true, if_false] at hsel hr72 hv75_0 <;> first | exact absurd hsel hne | exact absurd hsel.symm hne | (subst hr72 hv75_0 hv97_0; rw [if_pos rfl]; decide)
  · by_cases h1 : (p2 &&& (1 : Int32)) = (0 : Int32) <;> by_cases h2 : (p2 &&& (2 : Int32)) = (0 : Int32) <;> simp only [h1, h2, if_true, if_false] at hv2_0 hv7_0 <;> subst hv2_0 hv7_0 <;> simp +decide only [a, b, c, d, if_true, if_false] at hsel hr72 hv75_0 <;> first | exact absurd hsel hne | exact absurd hsel.symm hne | (subst hr72 hv75_0 hv97_0; rw [if_pos rfl]; decide)
  · subst a
    by_cases h1 : (p2 &&& (1 : Int32)) = (0 : Int32) <;> by_cases h2 : (p2 &&& (2 : Int32)) = (0 : Int32) <;> simp only [h1, h2, if_true, if_false] at hv2_0 hv7_0 <;> subst hv2_0 hv7_0 <;> simp +decide only [Int32.lt_irrefl, if_true, if_false] at hsel hr72 hv75_0 <;> first | exact absurd hsel hne | exact absurd hsel.symm hne | (subst hr72 hv75_0 hv97_0; rw [if_pos rfl]; decide)
set_option maxRecDepth 65536 in
set_option maxHeartbeats 40000000 in
theorem rm0 (l : Launch) (Z : State) (a0 : Array Value) (hw : ∀ d ∈ tables_1, d.before a0 Z = true) (ws : List Jvm.Cond) (p0 : Int32) (p1 : Int32) (p2 : Int32) (h0 : Heap) (n0 : Nat) (Z0 : n0 ≤ h0.size) :
    MetFree l x (head1 (Jvm.Cond.code x code maxLocals ret :: ws) room_1) (fun a U => a = #[(.int p0), (.int p1), (.int p2)] ∧ Z.Warmed39 U.vm ∧ U.heap = h0) (fun _ _ _ _ _ => True) (fun _ U o U' => ∃ v L, o = .returned v ∧ Q_rm0 n0 v L ∧ FrameEnd U o U' L 2 4) := by
  refine MetFree.of_bodySF (plainFor_of_name pn_0) hisR ?_
  intro p e s m args below meth c s₁ Bd hml0 hP hK
  obtain ⟨rfl, hZ, hh⟩ := hP
  have hx := Bd.exec
  have hby := Bd.bytes
  have hml : c.maxLocals = 10 := hml0
  have hown : s.vm.findClass "com/example/relinduct/relinduct/cfa/IntegerTypeCommonPinLaw" = some m.cls := findClass_of_methodNamed Bd.named
  have hnm := (name_of_methodNamed Bd.named Bd.method).1
  have X0 : Stand p l e room_1 s m #[(.int p0), (.int p1), (.int p2)] below meth c s₁ [] 0 0 := Stand.of_body Bd
  have e0 : s₁.heap = h0 := by rw [← hh, Bd.state]; rfl
  have N0 := Fr.nil n0
  have K0 : Steps p.tables e below (s₁.setTop (entryFrame m #[(.int p0), (.int p1), (.int p2)] maxLocals)) (s₁.setTop (mkF m 0 #[.val (.int p0), .val (.int p1), .val (.int p2), .unset, .unset, .unset, .unset, .unset, .unset, .unset] [])) := castTop (ef_0 m p0 p1 p2) (Steps.refl _)
  have K1 : Steps p.tables e below _ (s₁.setTop (mkF m 3 #[.val (.int p0), .val (.int p1), .val (.int p2), .unset, .unset, .unset, .unset, .unset, .unset, .unset] [(.int (p2 &&& (1 : Int32)))])) := K0.trans (by
    show Steps p.tables e below (s₁.setTop (mkF m 0 #[.val (.int p0), .val (.int p1), .val (.int p2), .unset, .unset, .unset, .unset, .unset, .unset, .unset] [])) _
    refine XS.iloadN X0.here hx rfl (hb hby at_0) rfl ?_
    show Steps p.tables e below (s₁.setTop (mkF m 1 #[.val (.int p0), .val (.int p1), .val (.int p2), .unset, .unset, .unset, .unset, .unset, .unset, .unset] [(.int p2)])) _
    refine XS.iconst X0.here hx rfl (hb hby at_1) ?_
    show Steps p.tables e below (s₁.setTop (mkF m 2 #[.val (.int p0), .val (.int p1), .val (.int p2), .unset, .unset, .unset, .unset, .unset, .unset, .unset] [(.int (1 : Int32)), (.int p2)])) _
    refine XS.iand X0.here hx rfl (hb hby at_2) rfl ?_
    show Steps p.tables e below (s₁.setTop (mkF m 3 #[.val (.int p0), .val (.int p1), .val (.int p2), .unset, .unset, .unset, .unset, .unset, .unset, .unset] [(.int (p2 &&& (1 : Int32)))])) _
    exact Steps.refl _)
  obtain ⟨v2_0, hv2_0, S2⟩ : ∃ (v2_0 : Int32), (if (p2 &&& (1 : Int32)) = (0 : Int32) then (0 : Int32) else (1 : Int32)) = v2_0 ∧ Steps p.tables e below (s₁.setTop (mkF m 3 #[.val (.int p0), .val (.int p1), .val (.int p2), .unset, .unset, .unset, .unset, .unset, .unset, .unset] [(.int (p2 &&& (1 : Int32)))])) (s₁.setTop (mkF m 11 #[.val (.int p0), .val (.int p1), .val (.int p2), .unset, .unset, .unset, .unset, .unset, .unset, .unset] [(.int v2_0)])) := by
    have R2 : Steps p.tables e below (s₁.setTop (mkF m 3 #[.val (.int p0), .val (.int p1), .val (.int p2), .unset, .unset, .unset, .unset, .unset, .unset, .unset] [(.int (p2 &&& (1 : Int32)))])) (s₁.setTop (mkF m 3 #[.val (.int p0), .val (.int p1), .val (.int p2), .unset, .unset, .unset, .unset, .unset, .unset, .unset] [(.int (p2 &&& (1 : Int32)))])) := Steps.refl _
    by_cases hc3 : (p2 &&& (1 : Int32)) = (0 : Int32)
    · have K3 : Steps p.tables e below _ (s₁.setTop (mkF m 11 #[.val (.int p0), .val (.int p1), .val (.int p2), .unset, .unset, .unset, .unset, .unset, .unset, .unset] [(.int (0 : Int32))])) := R2.trans (by
        show Steps p.tables e below (s₁.setTop (mkF m 3 #[.val (.int p0), .val (.int p1), .val (.int p2), .unset, .unset, .unset, .unset, .unset, .unset, .unset] [(.int (p2 &&& (1 : Int32)))])) _
        refine XS.ifYes X0.here hx rfl (pc0 := 3) (pc' := 10) rfl (hb hby at_3) rfl ((if0 _ _).trans (teq hc3).1) (by decide) (by decide) ?_
        show Steps p.tables e below (s₁.setTop (mkF m 10 #[.val (.int p0), .val (.int p1), .val (.int p2), .unset, .unset, .unset, .unset, .unset, .unset, .unset] [])) _
        refine XS.iconst X0.here hx rfl (hb hby at_10) ?_
        show Steps p.tables e below (s₁.setTop (mkF m 11 #[.val (.int p0), .val (.int p1), .val (.int p2), .unset, .unset, .unset, .unset, .unset, .unset, .unset] [(.int (0 : Int32))])) _
        exact Steps.refl _)
      exact ⟨(0 : Int32), (by rw [if_pos hc3]), K3⟩
    · have K4 : Steps p.tables e below _ (s₁.setTop (mkF m 11 #[.val (.int p0), .val (.int p1), .val (.int p2), .unset, .unset, .unset, .unset, .unset, .unset, .unset] [(.int (1 : Int32))])) := R2.trans (by
        show Steps p.tables e below (s₁.setTop (mkF m 3 #[.val (.int p0), .val (.int p1), .val (.int p2), .unset, .unset, .unset, .unset, .unset, .unset, .unset] [(.int (p2 &&& (1 : Int32)))])) _
        refine XS.ifNo X0.here hx rfl (hb hby at_3) rfl ((if0 _ _).trans (feq hc3).1) ?_
        show Steps p.tables e below (s₁.setTop (mkF m 6 #[.val (.int p0), .val (.int p1), .val (.int p2), .unset, .unset, .unset, .unset, .unset, .unset, .unset] [])) _
        refine XS.iconst X0.here hx rfl (hb hby at_6) ?_
        show Steps p.tables e below (s₁.setTop (mkF m 7 #[.val (.int p0), .val (.int p1), .val (.int p2), .unset, .unset, .unset, .unset, .unset, .unset, .unset] [(.int (1 : Int32))])) _
        refine XS.goto X0.here hx rfl (pc0 := 7) (pc' := 11) rfl (hb hby at_7) (by decide) (by decide) ?_
        show Steps p.tables e below (s₁.setTop (mkF m 11 #[.val (.int p0), .val (.int p1), .val (.int p2), .unset, .unset, .unset, .unset, .unset, .unset, .unset] [(.int (1 : Int32))])) _
        exact Steps.refl _)
      exact ⟨(1 : Int32), (by rw [if_neg hc3]), K4⟩
  have K5 := K1.trans S2
  have K6 : Steps p.tables e below _ (s₁.setTop (mkF m 15 #[.val (.int p0), .val (.int p1), .val (.int p2), .val (.int v2_0), .unset, .unset, .unset, .unset, .unset, .unset] [(.int (p2 &&& (2 : Int32)))])) := K5.trans (by
    show Steps p.tables e below (s₁.setTop (mkF m 11 #[.val (.int p0), .val (.int p1), .val (.int p2), .unset, .unset, .unset, .unset, .unset, .unset, .unset] [(.int v2_0)])) _
    refine XS.istoreN X0.here hx rfl (hb hby at_11) rfl (l' := #[.val (.int p0), .val (.int p1), .val (.int p2), .val (.int v2_0), .unset, .unset, .unset, .unset, .unset, .unset]) rfl ?_
    show Steps p.tables e below (s₁.setTop (mkF m 12 #[.val (.int p0), .val (.int p1), .val (.int p2), .val (.int v2_0), .unset, .unset, .unset, .unset, .unset, .unset] [])) _
    refine XS.iloadN X0.here hx rfl (hb hby at_12) rfl ?_
    show Steps p.tables e below (s₁.setTop (mkF m 13 #[.val (.int p0), .val (.int p1), .val (.int p2), .val (.int v2_0), .unset, .unset, .unset, .unset, .unset, .unset] [(.int p2)])) _
    refine XS.iconst X0.here hx rfl (hb hby at_13) ?_
    show Steps p.tables e below (s₁.setTop (mkF m 14 #[.val (.int p0), .val (.int p1), .val (.int p2), .val (.int v2_0), .unset, .unset, .unset, .unset, .unset, .unset] [(.int (2 : Int32)), (.int p2)])) _
    refine XS.iand X0.here hx rfl (hb hby at_14) rfl ?_
    show Steps p.tables e below (s₁.setTop (mkF m 15 #[.val (.int p0), .val (.int p1), .val (.int p2), .val (.int v2_0), .unset, .unset, .unset, .unset, .unset, .unset] [(.int (p2 &&& (2 : Int32)))])) _
    exact Steps.refl _)
  obtain ⟨v7_0, hv7_0, S7⟩ : ∃ (v7_0 : Int32), (if (p2 &&& (2 : Int32)) = (0 : Int32) then (0 : Int32) else (1 : Int32)) = v7_0 ∧ Steps p.tables e below (s₁.setTop (mkF m 15 #[.val (.int p0), .val (.int p1), .val (.int p2), .val (.int v2_0), .unset, .unset, .unset, .unset, .unset, .unset] [(.int (p2 &&& (2 : Int32)))])) (s₁.setTop (mkF m 23 #[.val (.int p0), .val (.int p1), .val (.int p2), .val (.int v2_0), .unset, .unset, .unset, .unset, .unset, .unset] [(.int v7_0)])) := by
    have R7 : Steps p.tables e below (s₁.setTop (mkF m 15 #[.val (.int p0), .val (.int p1), .val (.int p2), .val (.int v2_0), .unset, .unset, .unset, .unset, .unset, .unset] [(.int (p2 &&& (2 : Int32)))])) (s₁.setTop (mkF m 15 #[.val (.int p0), .val (.int p1), .val (.int p2), .val (.int v2_0), .unset, .unset, .unset, .unset, .unset, .unset] [(.int (p2 &&& (2 : Int32)))])) := Steps.refl _
    by_cases hc15 : (p2 &&& (2 : Int32)) = (0 : Int32)
    · have K8 : Steps p.tables e below _ (s₁.setTop (mkF m 23 #[.val (.int p0), .val (.int p1), .val (.int p2), .val (.int v2_0), .unset, .unset, .unset, .unset, .unset, .unset] [(.int (0 : Int32))])) := R7.trans (by
        show Steps p.tables e below (s₁.setTop (mkF m 15 #[.val (.int p0), .val (.int p1), .val (.int p2), .val (.int v2_0), .unset, .unset, .unset, .unset, .unset, .unset] [(.int (p2 &&& (2 : Int32)))])) _
        refine XS.ifYes X0.here hx rfl (pc0 := 15) (pc' := 22) rfl (hb hby at_15) rfl ((if0 _ _).trans (teq hc15).1) (by decide) (by decide) ?_
        show Steps p.tables e below (s₁.setTop (mkF m 22 #[.val (.int p0), .val (.int p1), .val (.int p2), .val (.int v2_0), .unset, .unset, .unset, .unset, .unset, .unset] [])) _
        refine XS.iconst X0.here hx rfl (hb hby at_22) ?_
        show Steps p.tables e below (s₁.setTop (mkF m 23 #[.val (.int p0), .val (.int p1), .val (.int p2), .val (.int v2_0), .unset, .unset, .unset, .unset, .unset, .unset] [(.int (0 : Int32))])) _
        exact Steps.refl _)
      exact ⟨(0 : Int32), (by rw [if_pos hc15]), K8⟩
    · have K9 : Steps p.tables e below _ (s₁.setTop (mkF m 23 #[.val (.int p0), .val (.int p1), .val (.int p2), .val (.int v2_0), .unset, .unset, .unset, .unset, .unset, .unset] [(.int (1 : Int32))])) := R7.trans (by
        show Steps p.tables e below (s₁.setTop (mkF m 15 #[.val (.int p0), .val (.int p1), .val (.int p2), .val (.int v2_0), .unset, .unset, .unset, .unset, .unset, .unset] [(.int (p2 &&& (2 : Int32)))])) _
        refine XS.ifNo X0.here hx rfl (hb hby at_15) rfl ((if0 _ _).trans (feq hc15).1) ?_
        show Steps p.tables e below (s₁.setTop (mkF m 18 #[.val (.int p0), .val (.int p1), .val (.int p2), .val (.int v2_0), .unset, .unset, .unset, .unset, .unset, .unset] [])) _
        refine XS.iconst X0.here hx rfl (hb hby at_18) ?_
        show Steps p.tables e below (s₁.setTop (mkF m 19 #[.val (.int p0), .val (.int p1), .val (.int p2), .val (.int v2_0), .unset, .unset, .unset, .unset, .unset, .unset] [(.int (1 : Int32))])) _
        refine XS.goto X0.here hx rfl (pc0 := 19) (pc' := 23) rfl (hb hby at_19) (by decide) (by decide) ?_
        show Steps p.tables e below (s₁.setTop (mkF m 23 #[.val (.int p0), .val (.int p1), .val (.int p2), .val (.int v2_0), .unset, .unset, .unset, .unset, .unset, .unset] [(.int (1 : Int32))])) _
        exact Steps.refl _)
      exact ⟨(1 : Int32), (by rw [if_neg hc15]), K9⟩
  have K10 := K6.trans S7
  have K11 : Steps p.tables e below _ (s₁.setTop (mkF m 25 #[.val (.int p0), .val (.int p1), .val (.int p2), .val (.int v2_0), .val (.int v7_0), .unset, .unset, .unset, .unset, .unset] [])) := K10.trans (by
    show Steps p.tables e below (s₁.setTop (mkF m 23 #[.val (.int p0), .val (.int p1), .val (.int p2), .val (.int v2_0), .unset, .unset, .unset, .unset, .unset, .unset] [(.int v7_0)])) _
    refine XS.istore X0.here hx rfl (hb hby at_23) rfl (l' := #[.val (.int p0), .val (.int p1), .val (.int p2), .val (.int v2_0), .val (.int v7_0), .unset, .unset, .unset, .unset, .unset]) rfl ?_
    show Steps p.tables e below (s₁.setTop (mkF m 25 #[.val (.int p0), .val (.int p1), .val (.int p2), .val (.int v2_0), .val (.int v7_0), .unset, .unset, .unset, .unset, .unset] [])) _
    exact Steps.refl _)
  obtain ⟨T12, h12, X12, e12, E12, A12, D12, -, st12⟩ := newO X0 hx hZ hown (hw _ (List.mem_of_getElem? (i := 0) rfl)) (hw _ (List.mem_of_getElem? (i := 1) rfl)) (hw _ (List.mem_of_getElem? (i := 2) rfl)) e0 (g := (mkF m 25 #[.val (.int p0), .val (.int p1), .val (.int p2), .val (.int v2_0), .val (.int v7_0), .unset, .unset, .unset, .unset, .unset] [])) rfl (hb hby at_25) (by decide) (by decide)
  obtain ⟨b12, g12⟩ : ∃ z, z = h0.size := ⟨_, rfl⟩
  rw [← g12] at A12 D12 st12
  have ge_b12 : n0 ≤ b12 := Nat.le_trans Z0 (Nat.le_of_eq g12.symm)
  have K13 : Steps p.tables e below _ (T12.setTop (mkF m 28 #[.val (.int p0), .val (.int p1), .val (.int p2), .val (.int v2_0), .val (.int v7_0), .unset, .unset, .unset, .unset, .unset] [(.ref b12)])) := K11.trans (st12 _ (Steps.refl _))
  have F12_bits : Fld Z h12 b12 "com/example/relinduct/relinduct/cfa/IntegerType" "bits" "I" (.int (0 : Int32)) := D12 (Or.inr (hw _ (List.mem_of_getElem? (i := 15) rfl))) (ty := .int) (by decide)
  have F12_signed : Fld Z h12 b12 "com/example/relinduct/relinduct/cfa/IntegerType" "signed" "Z" (.int (0 : Int32)) := D12 (Or.inr (hw _ (List.mem_of_getElem? (i := 17) rfl))) (ty := .boolean) (by decide)
  have K14 : Steps p.tables e below _ (T12.setTop (mkF m 31 #[.val (.int p0), .val (.int p1), .val (.int p2), .val (.int v2_0), .val (.int v7_0), .unset, .unset, .unset, .unset, .unset] [(.int v2_0), (.int p0), (.ref b12), (.ref b12)])) := K13.trans (by
    show Steps p.tables e below (T12.setTop (mkF m 28 #[.val (.int p0), .val (.int p1), .val (.int p2), .val (.int v2_0), .val (.int v7_0), .unset, .unset, .unset, .unset, .unset] [(.ref b12)])) _
    refine XS.dup X12.here hx rfl (hb hby at_28) rfl rfl ?_
    show Steps p.tables e below (T12.setTop (mkF m 29 #[.val (.int p0), .val (.int p1), .val (.int p2), .val (.int v2_0), .val (.int v7_0), .unset, .unset, .unset, .unset, .unset] [(.ref b12), (.ref b12)])) _
    refine XS.iloadN X12.here hx rfl (hb hby at_29) rfl ?_
    show Steps p.tables e below (T12.setTop (mkF m 30 #[.val (.int p0), .val (.int p1), .val (.int p2), .val (.int v2_0), .val (.int v7_0), .unset, .unset, .unset, .unset, .unset] [(.int p0), (.ref b12), (.ref b12)])) _
    refine XS.iloadN X12.here hx rfl (hb hby at_30) rfl ?_
    show Steps p.tables e below (T12.setTop (mkF m 31 #[.val (.int p0), .val (.int p1), .val (.int p2), .val (.int v2_0), .val (.int v7_0), .unset, .unset, .unset, .unset, .unset] [(.int v2_0), (.int p0), (.ref b12), (.ref b12)])) _
    exact Steps.refl _)
  have Z_15 : n0 ≤ h12.size := (Nat.le_trans Z0 E12.1)
  obtain ⟨_, _, ⟨T16, L16, k16, n16⟩, -, X16, ⟨Lc16, hQ16, l16, y16, z16⟩, st16⟩ := X12.specialBack hx (y := (⟨"com/example/relinduct/relinduct/cfa/IntegerType", "<init>", "(IZ)V"⟩ : MethodName)) rfl hown (mvT hZ (hw _ (List.mem_of_getElem? (i := 3) rfl))) (mvT hZ (hw _ (List.mem_of_getElem? (i := 4) rfl))) (mvT hZ (hw _ (List.mem_of_getElem? (i := 5) rfl))) (by decide) (backOf (W := 1) (rm1 l Z a0 hw [] b12 p0 v2_0 (.int (0 : Int32)) (.int (0 : Int32)) h12 n0 Z_15 ge_b12 A12 F12_bits F12_signed) hZ (hw _ (List.mem_of_getElem? (i := 5) rfl)) (hw _ (List.mem_of_getElem? (i := 2) rfl)) (by decide) (by decide)) (g := (mkF m 31 #[.val (.int p0), .val (.int p1), .val (.int p2), .val (.int v2_0), .val (.int v7_0), .unset, .unset, .unset, .unset, .unset] [(.int v2_0), (.int p0), (.ref b12), (.ref b12)])) rfl (by rw [hml]; rfl) K14 (a := b12) (argsL := [(.int p0), (.int v2_0)]) (rest := [(.ref b12)]) (lenOf pd_1 rfl) rfl (by show 2 * 0 + _ ≤ _; exact Nat.le_of_eq rfl) (hb hby at_31) (fun _ _ => ⟨rfl, e12, (by decide : 1 + 0 ≤ _), (by decide : 2 + 0 ≤ _)⟩)
  dsimp only [Pt.U, Pt.locs, Pt.cells, Pt.slots] at X16 l16 y16 z16 st16 hQ16
  subst l16 y16 z16
  obtain ⟨rfl, N16, Kp16, Q16_0, Q16_1, Q16_2⟩ := hQ16
  have N16' := Fr.app N0 N16
  have K17 : Steps p.tables e below _ (T16.setTop (mkF m 34 #[.val (.int p0), .val (.int p1), .val (.int p2), .val (.int v2_0), .val (.int v7_0), .unset, .unset, .unset, .unset, .unset] [(.ref b12)])) := st16
  have K18 : Steps p.tables e below _ (T16.setTop (mkF m 36 #[.val (.int p0), .val (.int p1), .val (.int p2), .val (.int v2_0), .val (.int v7_0), .val (.ref b12), .unset, .unset, .unset, .unset] [])) := K17.trans (by
    show Steps p.tables e below (T16.setTop (mkF m 34 #[.val (.int p0), .val (.int p1), .val (.int p2), .val (.int v2_0), .val (.int v7_0), .unset, .unset, .unset, .unset, .unset] [(.ref b12)])) _
    refine XS.astore X16.here hx rfl (hb hby at_34) rfl rfl (l' := #[.val (.int p0), .val (.int p1), .val (.int p2), .val (.int v2_0), .val (.int v7_0), .val (.ref b12), .unset, .unset, .unset, .unset]) rfl ?_
    show Steps p.tables e below (T16.setTop (mkF m 36 #[.val (.int p0), .val (.int p1), .val (.int p2), .val (.int v2_0), .val (.int v7_0), .val (.ref b12), .unset, .unset, .unset, .unset] [])) _
    exact Steps.refl _)
  have Z_20 : n0 ≤ T16.heap.size := (Nat.le_trans Z_15 Kp16.1)
  obtain ⟨T19, h19, X19, e19, E19, A19, D19, -, st19⟩ := newO X16 hx hZ hown (hw _ (List.mem_of_getElem? (i := 0) rfl)) (hw _ (List.mem_of_getElem? (i := 1) rfl)) (hw _ (List.mem_of_getElem? (i := 2) rfl)) rfl (g := (mkF m 36 #[.val (.int p0), .val (.int p1), .val (.int p2), .val (.int v2_0), .val (.int v7_0), .val (.ref b12), .unset, .unset, .unset, .unset] [])) rfl (hb hby at_36) (by decide) (by decide)
  obtain ⟨b19, g19⟩ : ∃ z, z = T16.heap.size := ⟨_, rfl⟩
  rw [← g19] at A19 D19 st19
  have ne_b12_b19 : b12 ≠ b19 := Nat.ne_of_lt (Nat.lt_of_lt_of_le Q16_0.lt (Nat.le_of_eq g19.symm))
  have ge_b19 : n0 ≤ b19 := Nat.le_trans Z_20 (Nat.le_of_eq g19.symm)
  have K21 : Steps p.tables e below _ (T19.setTop (mkF m 39 #[.val (.int p0), .val (.int p1), .val (.int p2), .val (.int v2_0), .val (.int v7_0), .val (.ref b12), .unset, .unset, .unset, .unset] [(.ref b19)])) := K18.trans (st19 _ (Steps.refl _))
  have F19_bits : Fld Z h19 b19 "com/example/relinduct/relinduct/cfa/IntegerType" "bits" "I" (.int (0 : Int32)) := D19 (Or.inr (hw _ (List.mem_of_getElem? (i := 15) rfl))) (ty := .int) (by decide)
  have F19_signed : Fld Z h19 b19 "com/example/relinduct/relinduct/cfa/IntegerType" "signed" "Z" (.int (0 : Int32)) := D19 (Or.inr (hw _ (List.mem_of_getElem? (i := 17) rfl))) (ty := .boolean) (by decide)
  have K22 : Steps p.tables e below _ (T19.setTop (mkF m 43 #[.val (.int p0), .val (.int p1), .val (.int p2), .val (.int v2_0), .val (.int v7_0), .val (.ref b12), .unset, .unset, .unset, .unset] [(.int v7_0), (.int p1), (.ref b19), (.ref b19)])) := K21.trans (by
    show Steps p.tables e below (T19.setTop (mkF m 39 #[.val (.int p0), .val (.int p1), .val (.int p2), .val (.int v2_0), .val (.int v7_0), .val (.ref b12), .unset, .unset, .unset, .unset] [(.ref b19)])) _
    refine XS.dup X19.here hx rfl (hb hby at_39) rfl rfl ?_
    show Steps p.tables e below (T19.setTop (mkF m 40 #[.val (.int p0), .val (.int p1), .val (.int p2), .val (.int v2_0), .val (.int v7_0), .val (.ref b12), .unset, .unset, .unset, .unset] [(.ref b19), (.ref b19)])) _
    refine XS.iloadN X19.here hx rfl (hb hby at_40) rfl ?_
    show Steps p.tables e below (T19.setTop (mkF m 41 #[.val (.int p0), .val (.int p1), .val (.int p2), .val (.int v2_0), .val (.int v7_0), .val (.ref b12), .unset, .unset, .unset, .unset] [(.int p1), (.ref b19), (.ref b19)])) _
    refine XS.iload X19.here hx rfl (hb hby at_41) rfl ?_
    show Steps p.tables e below (T19.setTop (mkF m 43 #[.val (.int p0), .val (.int p1), .val (.int p2), .val (.int v2_0), .val (.int v7_0), .val (.ref b12), .unset, .unset, .unset, .unset] [(.int v7_0), (.int p1), (.ref b19), (.ref b19)])) _
    exact Steps.refl _)
  have Z_23 : n0 ≤ h19.size := (Nat.le_trans Z_20 E19.1)
  obtain ⟨_, _, ⟨T24, L24, k24, n24⟩, -, X24, ⟨Lc24, hQ24, l24, y24, z24⟩, st24⟩ := X19.specialBack hx (y := (⟨"com/example/relinduct/relinduct/cfa/IntegerType", "<init>", "(IZ)V"⟩ : MethodName)) rfl hown (mvT hZ (hw _ (List.mem_of_getElem? (i := 3) rfl))) (mvT hZ (hw _ (List.mem_of_getElem? (i := 4) rfl))) (mvT hZ (hw _ (List.mem_of_getElem? (i := 5) rfl))) (by decide) (backOf (W := 1) (rm1 l Z a0 hw [] b19 p1 v7_0 (.int (0 : Int32)) (.int (0 : Int32)) h19 n0 Z_23 ge_b19 A19 F19_bits F19_signed) hZ (hw _ (List.mem_of_getElem? (i := 5) rfl)) (hw _ (List.mem_of_getElem? (i := 2) rfl)) (by decide) (by decide)) (g := (mkF m 43 #[.val (.int p0), .val (.int p1), .val (.int p2), .val (.int v2_0), .val (.int v7_0), .val (.ref b12), .unset, .unset, .unset, .unset] [(.int v7_0), (.int p1), (.ref b19), (.ref b19)])) rfl (by rw [hml]; rfl) K22 (a := b19) (argsL := [(.int p1), (.int v7_0)]) (rest := [(.ref b19)]) (lenOf pd_1 rfl) rfl (by show 2 * 0 + _ ≤ _; exact Nat.le_of_eq rfl) (hb hby at_43) (fun _ _ => ⟨rfl, e19, (by decide : 2 + 0 ≤ _), (by decide : 4 + 0 ≤ _)⟩)
  dsimp only [Pt.U, Pt.locs, Pt.cells, Pt.slots] at X24 l24 y24 z24 st24 hQ24
  subst l24 y24 z24
  obtain ⟨rfl, N24, Kp24, Q24_0, Q24_1, Q24_2⟩ := hQ24
  have N24' := Fr.app N16' N24
  have K25 : Steps p.tables e below _ (T24.setTop (mkF m 46 #[.val (.int p0), .val (.int p1), .val (.int p2), .val (.int v2_0), .val (.int v7_0), .val (.ref b12), .unset, .unset, .unset, .unset] [(.ref b19)])) := st24
  have K26 : Steps p.tables e below _ (T24.setTop (mkF m 52 #[.val (.int p0), .val (.int p1), .val (.int p2), .val (.int v2_0), .val (.int v7_0), .val (.ref b12), .val (.ref b19), .unset, .unset, .unset] [(.ref b19), (.ref b12)])) := K25.trans (by
    show Steps p.tables e below (T24.setTop (mkF m 46 #[.val (.int p0), .val (.int p1), .val (.int p2), .val (.int v2_0), .val (.int v7_0), .val (.ref b12), .unset, .unset, .unset, .unset] [(.ref b19)])) _
    refine XS.astore X24.here hx rfl (hb hby at_46) rfl rfl (l' := #[.val (.int p0), .val (.int p1), .val (.int p2), .val (.int v2_0), .val (.int v7_0), .val (.ref b12), .val (.ref b19), .unset, .unset, .unset]) rfl ?_
    show Steps p.tables e below (T24.setTop (mkF m 48 #[.val (.int p0), .val (.int p1), .val (.int p2), .val (.int v2_0), .val (.int v7_0), .val (.ref b12), .val (.ref b19), .unset, .unset, .unset] [])) _
    refine XS.aload X24.here hx rfl (hb hby at_48) rfl rfl ?_
    show Steps p.tables e below (T24.setTop (mkF m 50 #[.val (.int p0), .val (.int p1), .val (.int p2), .val (.int v2_0), .val (.int v7_0), .val (.ref b12), .val (.ref b19), .unset, .unset, .unset] [(.ref b12)])) _
    refine XS.aload X24.here hx rfl (hb hby at_50) rfl rfl ?_
    show Steps p.tables e below (T24.setTop (mkF m 52 #[.val (.int p0), .val (.int p1), .val (.int p2), .val (.int v2_0), .val (.int v7_0), .val (.ref b12), .val (.ref b19), .unset, .unset, .unset] [(.ref b19), (.ref b12)])) _
    exact Steps.refl _)
  have Z_27 : n0 ≤ T24.heap.size := (Nat.le_trans Z_23 Kp24.1)
  have F_28 : Fld Z T24.heap b12 "com/example/relinduct/relinduct/cfa/IntegerType" "signed" "Z" (.int (v2_0 &&& 1)) := ((Q16_2.ext E19).keep Kp24 (ninS ne_b12_b19 nin0))
  have F_29 : Fld Z T24.heap b12 "com/example/relinduct/relinduct/cfa/IntegerType" "bits" "I" (.int p0) := ((Q16_1.ext E19).keep Kp24 (ninS ne_b12_b19 nin0))
  have E_31 : Exa Z T24.heap b12 "com/example/relinduct/relinduct/cfa/IntegerType" := ((Q16_0.ext E19).keep Kp24)
  obtain ⟨cq30, kq30, q30a, q30b, q30c⟩ := isOf hZ rfl E_31
  obtain ⟨_, _, ⟨T30, L30, k30, n30⟩, -, X30, ⟨Lc30, hQ30, l30, y30, z30⟩, st30⟩ := X24.virtualBack hx (y := (⟨"com/example/relinduct/relinduct/cfa/IntegerType", "common", "(Lcom/example/relinduct/relinduct/cfa/IntegerType;)Lcom/example/relinduct/relinduct/cfa/IntegerType;"⟩ : MethodName)) (z := (⟨"com/example/relinduct/relinduct/cfa/IntegerType", "common", "(Lcom/example/relinduct/relinduct/cfa/IntegerType;)Lcom/example/relinduct/relinduct/cfa/IntegerType;"⟩ : MethodName)) hown (mvT hZ (hw _ (List.mem_of_getElem? (i := 18) rfl))) (mvT hZ (hw _ (List.mem_of_getElem? (i := 19) rfl))) (notFace_of_selects (args := #[]) (mvT hZ (hw _ (List.mem_of_getElem? (i := 21) rfl)))) (mvT hZ (hw _ (List.mem_of_getElem? (i := 21) rfl))) (mvT hZ (hw _ (List.mem_of_getElem? (i := 20) rfl))) (by decide) (backOf (W := 0) (rm4 l Z a0 hw [] b12 b19 (v2_0 &&& 1) (v7_0 &&& 1) p0 p1 T24.heap n0 Z_27 F_28 Q24_2 F_29 Q24_1) hZ (hw _ (List.mem_of_getElem? (i := 22) rfl)) (hw _ (List.mem_of_getElem? (i := 2) rfl)) (by decide) (by decide)) q30a q30c (g := (mkF m 52 #[.val (.int p0), .val (.int p1), .val (.int p2), .val (.int v2_0), .val (.int v7_0), .val (.ref b12), .val (.ref b19), .unset, .unset, .unset] [(.ref b19), (.ref b12)])) rfl (by rw [hml]; rfl) K26 (argsL := [(.ref b19)]) (rest := []) (lenOf pd_2 rfl) rfl (by show 2 * 0 + _ ≤ _; exact Nat.le_of_eq rfl) (hb hby at_52) (fun _ _ => ⟨rfl, rfl, (by decide : 2 + 0 ≤ _), (by decide : 4 + 0 ≤ _)⟩)
  dsimp only [Pt.U, Pt.locs, Pt.cells, Pt.slots] at X30 l30 y30 z30 st30 hQ30
  subst l30 y30 z30
  obtain ⟨rfl, N30, eh30⟩ := hQ30
  have N30' := Fr.app N24' N30
  have K32 : Steps p.tables e below _ (T30.setTop (mkF m 55 #[.val (.int p0), .val (.int p1), .val (.int p2), .val (.int v2_0), .val (.int v7_0), .val (.ref b12), .val (.ref b19), .unset, .unset, .unset] [(.ref (if (v2_0 &&& 1) = (v7_0 &&& 1) then (if p0 < p1 then b19 else b12) else (if (v2_0 &&& 1) = (0 : Int32) then (if p0 < p1 then b19 else b12) else (if p1 < p0 then b12 else b19))))])) := st30
  have hsl : (if (v2_0 &&& 1) = (v7_0 &&& 1) then (if p0 < p1 then b19 else b12) else (if (v2_0 &&& 1) = (0 : Int32) then (if p0 < p1 then b19 else b12) else (if p1 < p0 then b12 else b19))) = b19 ∨ (if (v2_0 &&& 1) = (v7_0 &&& 1) then (if p0 < p1 then b19 else b12) else (if (v2_0 &&& 1) = (0 : Int32) then (if p0 < p1 then b19 else b12) else (if p1 < p0 then b12 else b19))) = b12 := by (repeat' split) <;> first | exact Or.inl rfl | exact Or.inr rfl
  rcases hsl with hsel | hsel
  · rw [hsel] at K32
    have K33 : Steps p.tables e below _ (T30.setTop (mkF m 75 #[.val (.int p0), .val (.int p1), .val (.int p2), .val (.int v2_0), .val (.int v7_0), .val (.ref b12), .val (.ref b19), .val (.ref b19), .unset, .unset] [(.int p1), (.int p0)])) := K32.trans (by
      show Steps p.tables e below (T30.setTop (mkF m 55 #[.val (.int p0), .val (.int p1), .val (.int p2), .val (.int v2_0), .val (.int v7_0), .val (.ref b12), .val (.ref b19), .unset, .unset, .unset] [(.ref b19)])) _
      refine XS.astore X30.here hx rfl (hb hby at_55) rfl rfl (l' := #[.val (.int p0), .val (.int p1), .val (.int p2), .val (.int v2_0), .val (.int v7_0), .val (.ref b12), .val (.ref b19), .val (.ref b19), .unset, .unset]) rfl ?_
      show Steps p.tables e below (T30.setTop (mkF m 57 #[.val (.int p0), .val (.int p1), .val (.int p2), .val (.int v2_0), .val (.int v7_0), .val (.ref b12), .val (.ref b19), .val (.ref b19), .unset, .unset] [])) _
      refine XS.aload X30.here hx rfl (hb hby at_57) rfl rfl ?_
      show Steps p.tables e below (T30.setTop (mkF m 59 #[.val (.int p0), .val (.int p1), .val (.int p2), .val (.int v2_0), .val (.int v7_0), .val (.ref b12), .val (.ref b19), .val (.ref b19), .unset, .unset] [(.ref b19)])) _
      refine XS.aload X30.here hx rfl (hb hby at_59) rfl rfl ?_
      show Steps p.tables e below (T30.setTop (mkF m 61 #[.val (.int p0), .val (.int p1), .val (.int p2), .val (.int v2_0), .val (.int v7_0), .val (.ref b12), .val (.ref b19), .val (.ref b19), .unset, .unset] [(.ref b12), (.ref b19)])) _
      refine Jvm.RoadKit.acmp (g := (mkF m 61 #[.val (.int p0), .val (.int p1), .val (.int p2), .val (.int v2_0), .val (.int v7_0), .val (.ref b12), .val (.ref b19), .val (.ref b19), .unset, .unset] [(.ref b12), (.ref b19)])) X30 hx rfl rfl rfl (pc0 := 61) (pc' := 64) (same := false) rfl (hb hby at_61) rfl (decide_eq_false fun q => (Ne.symm ne_b12_b19) (Value.ref.inj q)) (by decide) (by decide) ?_
      show Steps p.tables e below (T30.setTop (mkF m 64 #[.val (.int p0), .val (.int p1), .val (.int p2), .val (.int v2_0), .val (.int v7_0), .val (.ref b12), .val (.ref b19), .val (.ref b19), .unset, .unset] [])) _
      refine XS.aload X30.here hx rfl (hb hby at_64) rfl rfl ?_
      show Steps p.tables e below (T30.setTop (mkF m 66 #[.val (.int p0), .val (.int p1), .val (.int p2), .val (.int v2_0), .val (.int v7_0), .val (.ref b12), .val (.ref b19), .val (.ref b19), .unset, .unset] [(.ref b19)])) _
      refine XS.aload X30.here hx rfl (hb hby at_66) rfl rfl ?_
      show Steps p.tables e below (T30.setTop (mkF m 68 #[.val (.int p0), .val (.int p1), .val (.int p2), .val (.int v2_0), .val (.int v7_0), .val (.ref b12), .val (.ref b19), .val (.ref b19), .unset, .unset] [(.ref b19), (.ref b19)])) _
      refine Jvm.RoadKit.acmp (g := (mkF m 68 #[.val (.int p0), .val (.int p1), .val (.int p2), .val (.int v2_0), .val (.int v7_0), .val (.ref b12), .val (.ref b19), .val (.ref b19), .unset, .unset] [(.ref b19), (.ref b19)])) X30 hx rfl rfl rfl (pc0 := 68) (pc' := 73) (same := true) rfl (hb hby at_68) rfl (decide_eq_true rfl) (by decide) (by decide) ?_
      show Steps p.tables e below (T30.setTop (mkF m 73 #[.val (.int p0), .val (.int p1), .val (.int p2), .val (.int v2_0), .val (.int v7_0), .val (.ref b12), .val (.ref b19), .val (.ref b19), .unset, .unset] [])) _
      refine XS.iloadN X30.here hx rfl (hb hby at_73) rfl ?_
      show Steps p.tables e below (T30.setTop (mkF m 74 #[.val (.int p0), .val (.int p1), .val (.int p2), .val (.int v2_0), .val (.int v7_0), .val (.ref b12), .val (.ref b19), .val (.ref b19), .unset, .unset] [(.int p0)])) _
      refine XS.iloadN X30.here hx rfl (hb hby at_74) rfl ?_
      show Steps p.tables e below (T30.setTop (mkF m 75 #[.val (.int p0), .val (.int p1), .val (.int p2), .val (.int v2_0), .val (.int v7_0), .val (.ref b12), .val (.ref b19), .val (.ref b19), .unset, .unset] [(.int p1), (.int p0)])) _
      exact Steps.refl _)
    obtain ⟨_, _, ⟨T34, L34, k34, n34⟩, -, X34, ⟨Lc34, hQ34, l34, y34, z34⟩, st34⟩ := Jvm.LawKit.callS X30 hx (y := (⟨"java/lang/Math", "max", "(II)I"⟩ : MethodName)) hown (mvT hZ (hw _ (List.mem_of_getElem? (i := 23) rfl))) (mvT hZ (hw _ (List.mem_of_getElem? (i := 24) rfl))) (mvT hZ (hw _ (List.mem_of_getElem? (i := 25) rfl))) (mvT hZ (hw _ (List.mem_of_getElem? (i := 26) rfl))) (by decide) (backOf (W := 0) (rm5 l Z a0 hw [] p0 p1 T24.heap n0 Z_27 ) hZ (hw _ (List.mem_of_getElem? (i := 26) rfl)) (hw _ (List.mem_of_getElem? (i := 25) rfl)) (by decide) (by decide)) (g := (mkF m 75 #[.val (.int p0), .val (.int p1), .val (.int p2), .val (.int v2_0), .val (.int v7_0), .val (.ref b12), .val (.ref b19), .val (.ref b19), .unset, .unset] [(.int p1), (.int p0)])) rfl (by rw [hml]; rfl) (argsL := [(.int p0), (.int p1)]) (rest := []) (lenOf pd_3 rfl) rfl (by show 2 * 0 + _ ≤ _; exact Nat.le_of_eq rfl) (hb hby at_75) (fun _ _ => ⟨rfl, eh30, (by decide : 2 + 0 ≤ _), (by decide : 4 + 0 ≤ _)⟩)
    dsimp only [Pt.U, Pt.locs, Pt.cells, Pt.slots] at X34 l34 y34 z34 st34 hQ34
    subst l34 y34 z34
    obtain ⟨rfl, N34, eh34⟩ := hQ34
    have N34' := Fr.app N30' N34
    have K36 : Steps p.tables e below _ (T34.setTop (mkF m 78 #[.val (.int p0), .val (.int p1), .val (.int p2), .val (.int v2_0), .val (.int v7_0), .val (.ref b12), .val (.ref b19), .val (.ref b19), .unset, .unset] [(.int (if p0 < p1 then p1 else p0))])) := K33.trans (st34 _ (Steps.refl _))
    obtain ⟨r35, hr35⟩ : ∃ z : Int32, (if p0 < p1 then p1 else p0) = z := ⟨_, rfl⟩
    rw [hr35] at K36
    have K37 : Steps p.tables e below _ (T34.setTop (mkF m 81 #[.val (.int p0), .val (.int p1), .val (.int p2), .val (.int v2_0), .val (.int v7_0), .val (.ref b12), .val (.ref b19), .val (.ref b19), .val (.int r35), .unset] [(.int v2_0)])) := K36.trans (by
      show Steps p.tables e below (T34.setTop (mkF m 78 #[.val (.int p0), .val (.int p1), .val (.int p2), .val (.int v2_0), .val (.int v7_0), .val (.ref b12), .val (.ref b19), .val (.ref b19), .unset, .unset] [(.int r35)])) _
      refine XS.istore X34.here hx rfl (hb hby at_78) rfl (l' := #[.val (.int p0), .val (.int p1), .val (.int p2), .val (.int v2_0), .val (.int v7_0), .val (.ref b12), .val (.ref b19), .val (.ref b19), .val (.int r35), .unset]) rfl ?_
      show Steps p.tables e below (T34.setTop (mkF m 80 #[.val (.int p0), .val (.int p1), .val (.int p2), .val (.int v2_0), .val (.int v7_0), .val (.ref b12), .val (.ref b19), .val (.ref b19), .val (.int r35), .unset] [])) _
      refine XS.iloadN X34.here hx rfl (hb hby at_80) rfl ?_
      show Steps p.tables e below (T34.setTop (mkF m 81 #[.val (.int p0), .val (.int p1), .val (.int p2), .val (.int v2_0), .val (.int v7_0), .val (.ref b12), .val (.ref b19), .val (.ref b19), .val (.int r35), .unset] [(.int v2_0)])) _
      exact Steps.refl _)
    obtain ⟨v38_0, hv38_0, S38⟩ : ∃ (v38_0 : Int32), (if v2_0 = (0 : Int32) then (if v7_0 = (0 : Int32) then (0 : Int32) else (if p0 < p1 then (1 : Int32) else (0 : Int32))) else (if v7_0 = (0 : Int32) then (if p1 < p0 then (1 : Int32) else (0 : Int32)) else (1 : Int32))) = v38_0 ∧ Steps p.tables e below (T34.setTop (mkF m 81 #[.val (.int p0), .val (.int p1), .val (.int p2), .val (.int v2_0), .val (.int v7_0), .val (.ref b12), .val (.ref b19), .val (.ref b19), .val (.int r35), .unset] [(.int v2_0)])) (T34.setTop (mkF m 137 #[.val (.int p0), .val (.int p1), .val (.int p2), .val (.int v2_0), .val (.int v7_0), .val (.ref b12), .val (.ref b19), .val (.ref b19), .val (.int r35), .val (.int v38_0)] [])) := by
      have R38 : Steps p.tables e below (T34.setTop (mkF m 81 #[.val (.int p0), .val (.int p1), .val (.int p2), .val (.int v2_0), .val (.int v7_0), .val (.ref b12), .val (.ref b19), .val (.ref b19), .val (.int r35), .unset] [(.int v2_0)])) (T34.setTop (mkF m 81 #[.val (.int p0), .val (.int p1), .val (.int p2), .val (.int v2_0), .val (.int v7_0), .val (.ref b12), .val (.ref b19), .val (.ref b19), .val (.int r35), .unset] [(.int v2_0)])) := Steps.refl _
      by_cases hc81 : v2_0 = (0 : Int32)
      · have K39 : Steps p.tables e below _ (T34.setTop (mkF m 116 #[.val (.int p0), .val (.int p1), .val (.int p2), .val (.int v2_0), .val (.int v7_0), .val (.ref b12), .val (.ref b19), .val (.ref b19), .val (.int r35), .unset] [(.int v7_0)])) := R38.trans (by
          show Steps p.tables e below (T34.setTop (mkF m 81 #[.val (.int p0), .val (.int p1), .val (.int p2), .val (.int v2_0), .val (.int v7_0), .val (.ref b12), .val (.ref b19), .val (.ref b19), .val (.int r35), .unset] [(.int v2_0)])) _
          refine XS.ifYes X34.here hx rfl (pc0 := 81) (pc' := 95) rfl (hb hby at_81) rfl ((if0 _ _).trans (teq hc81).1) (by decide) (by decide) ?_
          show Steps p.tables e below (T34.setTop (mkF m 95 #[.val (.int p0), .val (.int p1), .val (.int p2), .val (.int v2_0), .val (.int v7_0), .val (.ref b12), .val (.ref b19), .val (.ref b19), .val (.int r35), .unset] [])) _
          refine XS.iloadN X34.here hx rfl (hb hby at_95) rfl ?_
          show Steps p.tables e below (T34.setTop (mkF m 96 #[.val (.int p0), .val (.int p1), .val (.int p2), .val (.int v2_0), .val (.int v7_0), .val (.ref b12), .val (.ref b19), .val (.ref b19), .val (.int r35), .unset] [(.int v2_0)])) _
          refine XS.ifYes X34.here hx rfl (pc0 := 96) (pc' := 114) rfl (hb hby at_96) rfl ((if0 _ _).trans (teq hc81).1) (by decide) (by decide) ?_
          show Steps p.tables e below (T34.setTop (mkF m 114 #[.val (.int p0), .val (.int p1), .val (.int p2), .val (.int v2_0), .val (.int v7_0), .val (.ref b12), .val (.ref b19), .val (.ref b19), .val (.int r35), .unset] [])) _
          refine XS.iload X34.here hx rfl (hb hby at_114) rfl ?_
          show Steps p.tables e below (T34.setTop (mkF m 116 #[.val (.int p0), .val (.int p1), .val (.int p2), .val (.int v2_0), .val (.int v7_0), .val (.ref b12), .val (.ref b19), .val (.ref b19), .val (.int r35), .unset] [(.int v7_0)])) _
          exact Steps.refl _)
        by_cases hc116 : v7_0 = (0 : Int32)
        · have K40 : Steps p.tables e below _ (T34.setTop (mkF m 137 #[.val (.int p0), .val (.int p1), .val (.int p2), .val (.int v2_0), .val (.int v7_0), .val (.ref b12), .val (.ref b19), .val (.ref b19), .val (.int r35), .val (.int (0 : Int32))] [])) := K39.trans (by
            show Steps p.tables e below (T34.setTop (mkF m 116 #[.val (.int p0), .val (.int p1), .val (.int p2), .val (.int v2_0), .val (.int v7_0), .val (.ref b12), .val (.ref b19), .val (.ref b19), .val (.int r35), .unset] [(.int v7_0)])) _
            refine XS.ifYes X34.here hx rfl (pc0 := 116) (pc' := 134) rfl (hb hby at_116) rfl ((if0 _ _).trans (teq hc116).1) (by decide) (by decide) ?_
            show Steps p.tables e below (T34.setTop (mkF m 134 #[.val (.int p0), .val (.int p1), .val (.int p2), .val (.int v2_0), .val (.int v7_0), .val (.ref b12), .val (.ref b19), .val (.ref b19), .val (.int r35), .unset] [])) _
            refine XS.iconst X34.here hx rfl (hb hby at_134) ?_
            show Steps p.tables e below (T34.setTop (mkF m 135 #[.val (.int p0), .val (.int p1), .val (.int p2), .val (.int v2_0), .val (.int v7_0), .val (.ref b12), .val (.ref b19), .val (.ref b19), .val (.int r35), .unset] [(.int (0 : Int32))])) _
            refine XS.istore X34.here hx rfl (hb hby at_135) rfl (l' := #[.val (.int p0), .val (.int p1), .val (.int p2), .val (.int v2_0), .val (.int v7_0), .val (.ref b12), .val (.ref b19), .val (.ref b19), .val (.int r35), .val (.int (0 : Int32))]) rfl ?_
            show Steps p.tables e below (T34.setTop (mkF m 137 #[.val (.int p0), .val (.int p1), .val (.int p2), .val (.int v2_0), .val (.int v7_0), .val (.ref b12), .val (.ref b19), .val (.ref b19), .val (.int r35), .val (.int (0 : Int32))] [])) _
            exact Steps.refl _)
          exact ⟨(0 : Int32), (by rw [if_pos hc81, if_pos hc116]), K40⟩
        · have K41 : Steps p.tables e below _ (T34.setTop (mkF m 121 #[.val (.int p0), .val (.int p1), .val (.int p2), .val (.int v2_0), .val (.int v7_0), .val (.ref b12), .val (.ref b19), .val (.ref b19), .val (.int r35), .unset] [(.int p0), (.int p1)])) := K39.trans (by
            show Steps p.tables e below (T34.setTop (mkF m 116 #[.val (.int p0), .val (.int p1), .val (.int p2), .val (.int v2_0), .val (.int v7_0), .val (.ref b12), .val (.ref b19), .val (.ref b19), .val (.int r35), .unset] [(.int v7_0)])) _
            refine XS.ifNo X34.here hx rfl (hb hby at_116) rfl ((if0 _ _).trans (feq hc116).1) ?_
            show Steps p.tables e below (T34.setTop (mkF m 119 #[.val (.int p0), .val (.int p1), .val (.int p2), .val (.int v2_0), .val (.int v7_0), .val (.ref b12), .val (.ref b19), .val (.ref b19), .val (.int r35), .unset] [])) _
            refine XS.iloadN X34.here hx rfl (hb hby at_119) rfl ?_
            show Steps p.tables e below (T34.setTop (mkF m 120 #[.val (.int p0), .val (.int p1), .val (.int p2), .val (.int v2_0), .val (.int v7_0), .val (.ref b12), .val (.ref b19), .val (.ref b19), .val (.int r35), .unset] [(.int p1)])) _
            refine XS.iloadN X34.here hx rfl (hb hby at_120) rfl ?_
            show Steps p.tables e below (T34.setTop (mkF m 121 #[.val (.int p0), .val (.int p1), .val (.int p2), .val (.int v2_0), .val (.int v7_0), .val (.ref b12), .val (.ref b19), .val (.ref b19), .val (.int r35), .unset] [(.int p0), (.int p1)])) _
            exact Steps.refl _)
          obtain ⟨v42_0, hv42_0, S42⟩ : ∃ (v42_0 : Int32), (if p0 < p1 then (1 : Int32) else (0 : Int32)) = v42_0 ∧ Steps p.tables e below (T34.setTop (mkF m 121 #[.val (.int p0), .val (.int p1), .val (.int p2), .val (.int v2_0), .val (.int v7_0), .val (.ref b12), .val (.ref b19), .val (.ref b19), .val (.int r35), .unset] [(.int p0), (.int p1)])) (T34.setTop (mkF m 129 #[.val (.int p0), .val (.int p1), .val (.int p2), .val (.int v2_0), .val (.int v7_0), .val (.ref b12), .val (.ref b19), .val (.ref b19), .val (.int r35), .unset] [(.int v42_0)])) := by
            have R42 : Steps p.tables e below (T34.setTop (mkF m 121 #[.val (.int p0), .val (.int p1), .val (.int p2), .val (.int v2_0), .val (.int v7_0), .val (.ref b12), .val (.ref b19), .val (.ref b19), .val (.int r35), .unset] [(.int p0), (.int p1)])) (T34.setTop (mkF m 121 #[.val (.int p0), .val (.int p1), .val (.int p2), .val (.int v2_0), .val (.int v7_0), .val (.ref b12), .val (.ref b19), .val (.ref b19), .val (.int r35), .unset] [(.int p0), (.int p1)])) := Steps.refl _
            by_cases hc121 : p0 < p1
            · have K43 : Steps p.tables e below _ (T34.setTop (mkF m 129 #[.val (.int p0), .val (.int p1), .val (.int p2), .val (.int v2_0), .val (.int v7_0), .val (.ref b12), .val (.ref b19), .val (.ref b19), .val (.int r35), .unset] [(.int (1 : Int32))])) := R42.trans (by
                show Steps p.tables e below (T34.setTop (mkF m 121 #[.val (.int p0), .val (.int p1), .val (.int p2), .val (.int v2_0), .val (.int v7_0), .val (.ref b12), .val (.ref b19), .val (.ref b19), .val (.int r35), .unset] [(.int p0), (.int p1)])) _
                refine XS.icmpNo X34.here hx rfl (hb hby at_121) rfl (tlt hc121).2.2.2 ?_
                show Steps p.tables e below (T34.setTop (mkF m 124 #[.val (.int p0), .val (.int p1), .val (.int p2), .val (.int v2_0), .val (.int v7_0), .val (.ref b12), .val (.ref b19), .val (.ref b19), .val (.int r35), .unset] [])) _
                refine XS.iconst X34.here hx rfl (hb hby at_124) ?_
                show Steps p.tables e below (T34.setTop (mkF m 125 #[.val (.int p0), .val (.int p1), .val (.int p2), .val (.int v2_0), .val (.int v7_0), .val (.ref b12), .val (.ref b19), .val (.ref b19), .val (.int r35), .unset] [(.int (1 : Int32))])) _
                refine XS.goto X34.here hx rfl (pc0 := 125) (pc' := 129) rfl (hb hby at_125) (by decide) (by decide) ?_
                show Steps p.tables e below (T34.setTop (mkF m 129 #[.val (.int p0), .val (.int p1), .val (.int p2), .val (.int v2_0), .val (.int v7_0), .val (.ref b12), .val (.ref b19), .val (.ref b19), .val (.int r35), .unset] [(.int (1 : Int32))])) _
                exact Steps.refl _)
              exact ⟨(1 : Int32), (by rw [if_pos hc121]), K43⟩
            · have K44 : Steps p.tables e below _ (T34.setTop (mkF m 129 #[.val (.int p0), .val (.int p1), .val (.int p2), .val (.int v2_0), .val (.int v7_0), .val (.ref b12), .val (.ref b19), .val (.ref b19), .val (.int r35), .unset] [(.int (0 : Int32))])) := R42.trans (by
                show Steps p.tables e below (T34.setTop (mkF m 121 #[.val (.int p0), .val (.int p1), .val (.int p2), .val (.int v2_0), .val (.int v7_0), .val (.ref b12), .val (.ref b19), .val (.ref b19), .val (.int r35), .unset] [(.int p0), (.int p1)])) _
                refine XS.icmpYes X34.here hx rfl (pc0 := 121) (pc' := 128) rfl (hb hby at_121) rfl (flt hc121).2.2.2 (by decide) (by decide) ?_
                show Steps p.tables e below (T34.setTop (mkF m 128 #[.val (.int p0), .val (.int p1), .val (.int p2), .val (.int v2_0), .val (.int v7_0), .val (.ref b12), .val (.ref b19), .val (.ref b19), .val (.int r35), .unset] [])) _
                refine XS.iconst X34.here hx rfl (hb hby at_128) ?_
                show Steps p.tables e below (T34.setTop (mkF m 129 #[.val (.int p0), .val (.int p1), .val (.int p2), .val (.int v2_0), .val (.int v7_0), .val (.ref b12), .val (.ref b19), .val (.ref b19), .val (.int r35), .unset] [(.int (0 : Int32))])) _
                exact Steps.refl _)
              exact ⟨(0 : Int32), (by rw [if_neg hc121]), K44⟩
          have K45 := K41.trans S42
          have K46 : Steps p.tables e below _ (T34.setTop (mkF m 137 #[.val (.int p0), .val (.int p1), .val (.int p2), .val (.int v2_0), .val (.int v7_0), .val (.ref b12), .val (.ref b19), .val (.ref b19), .val (.int r35), .val (.int v42_0)] [])) := K45.trans (by
            show Steps p.tables e below (T34.setTop (mkF m 129 #[.val (.int p0), .val (.int p1), .val (.int p2), .val (.int v2_0), .val (.int v7_0), .val (.ref b12), .val (.ref b19), .val (.ref b19), .val (.int r35), .unset] [(.int v42_0)])) _
            refine XS.istore X34.here hx rfl (hb hby at_129) rfl (l' := #[.val (.int p0), .val (.int p1), .val (.int p2), .val (.int v2_0), .val (.int v7_0), .val (.ref b12), .val (.ref b19), .val (.ref b19), .val (.int r35), .val (.int v42_0)]) rfl ?_
            show Steps p.tables e below (T34.setTop (mkF m 131 #[.val (.int p0), .val (.int p1), .val (.int p2), .val (.int v2_0), .val (.int v7_0), .val (.ref b12), .val (.ref b19), .val (.ref b19), .val (.int r35), .val (.int v42_0)] [])) _
            refine XS.goto X34.here hx rfl (pc0 := 131) (pc' := 137) rfl (hb hby at_131) (by decide) (by decide) ?_
            show Steps p.tables e below (T34.setTop (mkF m 137 #[.val (.int p0), .val (.int p1), .val (.int p2), .val (.int v2_0), .val (.int v7_0), .val (.ref b12), .val (.ref b19), .val (.ref b19), .val (.int r35), .val (.int v42_0)] [])) _
            exact Steps.refl _)
          subst hv42_0
          exact ⟨(if p0 < p1 then (1 : Int32) else (0 : Int32)), (by rw [if_pos hc81, if_neg hc116]), K46⟩
      · have K47 : Steps p.tables e below _ (T34.setTop (mkF m 86 #[.val (.int p0), .val (.int p1), .val (.int p2), .val (.int v2_0), .val (.int v7_0), .val (.ref b12), .val (.ref b19), .val (.ref b19), .val (.int r35), .unset] [(.int v7_0)])) := R38.trans (by
          show Steps p.tables e below (T34.setTop (mkF m 81 #[.val (.int p0), .val (.int p1), .val (.int p2), .val (.int v2_0), .val (.int v7_0), .val (.ref b12), .val (.ref b19), .val (.ref b19), .val (.int r35), .unset] [(.int v2_0)])) _
          refine XS.ifNo X34.here hx rfl (hb hby at_81) rfl ((if0 _ _).trans (feq hc81).1) ?_
          show Steps p.tables e below (T34.setTop (mkF m 84 #[.val (.int p0), .val (.int p1), .val (.int p2), .val (.int v2_0), .val (.int v7_0), .val (.ref b12), .val (.ref b19), .val (.ref b19), .val (.int r35), .unset] [])) _
          refine XS.iload X34.here hx rfl (hb hby at_84) rfl ?_
          show Steps p.tables e below (T34.setTop (mkF m 86 #[.val (.int p0), .val (.int p1), .val (.int p2), .val (.int v2_0), .val (.int v7_0), .val (.ref b12), .val (.ref b19), .val (.ref b19), .val (.int r35), .unset] [(.int v7_0)])) _
          exact Steps.refl _)
        by_cases hc86 : v7_0 = (0 : Int32)
        · have K48 : Steps p.tables e below _ (T34.setTop (mkF m 101 #[.val (.int p0), .val (.int p1), .val (.int p2), .val (.int v2_0), .val (.int v7_0), .val (.ref b12), .val (.ref b19), .val (.ref b19), .val (.int r35), .unset] [(.int p1), (.int p0)])) := K47.trans (by
            show Steps p.tables e below (T34.setTop (mkF m 86 #[.val (.int p0), .val (.int p1), .val (.int p2), .val (.int v2_0), .val (.int v7_0), .val (.ref b12), .val (.ref b19), .val (.ref b19), .val (.int r35), .unset] [(.int v7_0)])) _
            refine XS.ifYes X34.here hx rfl (pc0 := 86) (pc' := 95) rfl (hb hby at_86) rfl ((if0 _ _).trans (teq hc86).1) (by decide) (by decide) ?_
            show Steps p.tables e below (T34.setTop (mkF m 95 #[.val (.int p0), .val (.int p1), .val (.int p2), .val (.int v2_0), .val (.int v7_0), .val (.ref b12), .val (.ref b19), .val (.ref b19), .val (.int r35), .unset] [])) _
            refine XS.iloadN X34.here hx rfl (hb hby at_95) rfl ?_
            show Steps p.tables e below (T34.setTop (mkF m 96 #[.val (.int p0), .val (.int p1), .val (.int p2), .val (.int v2_0), .val (.int v7_0), .val (.ref b12), .val (.ref b19), .val (.ref b19), .val (.int r35), .unset] [(.int v2_0)])) _
            refine XS.ifNo X34.here hx rfl (hb hby at_96) rfl ((if0 _ _).trans (feq hc81).1) ?_
            show Steps p.tables e below (T34.setTop (mkF m 99 #[.val (.int p0), .val (.int p1), .val (.int p2), .val (.int v2_0), .val (.int v7_0), .val (.ref b12), .val (.ref b19), .val (.ref b19), .val (.int r35), .unset] [])) _
            refine XS.iloadN X34.here hx rfl (hb hby at_99) rfl ?_
            show Steps p.tables e below (T34.setTop (mkF m 100 #[.val (.int p0), .val (.int p1), .val (.int p2), .val (.int v2_0), .val (.int v7_0), .val (.ref b12), .val (.ref b19), .val (.ref b19), .val (.int r35), .unset] [(.int p0)])) _
            refine XS.iloadN X34.here hx rfl (hb hby at_100) rfl ?_
            show Steps p.tables e below (T34.setTop (mkF m 101 #[.val (.int p0), .val (.int p1), .val (.int p2), .val (.int v2_0), .val (.int v7_0), .val (.ref b12), .val (.ref b19), .val (.ref b19), .val (.int r35), .unset] [(.int p1), (.int p0)])) _
            exact Steps.refl _)
          obtain ⟨v49_0, hv49_0, S49⟩ : ∃ (v49_0 : Int32), (if p1 < p0 then (1 : Int32) else (0 : Int32)) = v49_0 ∧ Steps p.tables e below (T34.setTop (mkF m 101 #[.val (.int p0), .val (.int p1), .val (.int p2), .val (.int v2_0), .val (.int v7_0), .val (.ref b12), .val (.ref b19), .val (.ref b19), .val (.int r35), .unset] [(.int p1), (.int p0)])) (T34.setTop (mkF m 109 #[.val (.int p0), .val (.int p1), .val (.int p2), .val (.int v2_0), .val (.int v7_0), .val (.ref b12), .val (.ref b19), .val (.ref b19), .val (.int r35), .unset] [(.int v49_0)])) := by
            have R49 : Steps p.tables e below (T34.setTop (mkF m 101 #[.val (.int p0), .val (.int p1), .val (.int p2), .val (.int v2_0), .val (.int v7_0), .val (.ref b12), .val (.ref b19), .val (.ref b19), .val (.int r35), .unset] [(.int p1), (.int p0)])) (T34.setTop (mkF m 101 #[.val (.int p0), .val (.int p1), .val (.int p2), .val (.int v2_0), .val (.int v7_0), .val (.ref b12), .val (.ref b19), .val (.ref b19), .val (.int r35), .unset] [(.int p1), (.int p0)])) := Steps.refl _
            by_cases hc101 : p1 < p0
            · have K50 : Steps p.tables e below _ (T34.setTop (mkF m 109 #[.val (.int p0), .val (.int p1), .val (.int p2), .val (.int v2_0), .val (.int v7_0), .val (.ref b12), .val (.ref b19), .val (.ref b19), .val (.int r35), .unset] [(.int (1 : Int32))])) := R49.trans (by
                show Steps p.tables e below (T34.setTop (mkF m 101 #[.val (.int p0), .val (.int p1), .val (.int p2), .val (.int v2_0), .val (.int v7_0), .val (.ref b12), .val (.ref b19), .val (.ref b19), .val (.int r35), .unset] [(.int p1), (.int p0)])) _
                refine XS.icmpNo X34.here hx rfl (hb hby at_101) rfl (tlt hc101).2.2.2 ?_
                show Steps p.tables e below (T34.setTop (mkF m 104 #[.val (.int p0), .val (.int p1), .val (.int p2), .val (.int v2_0), .val (.int v7_0), .val (.ref b12), .val (.ref b19), .val (.ref b19), .val (.int r35), .unset] [])) _
                refine XS.iconst X34.here hx rfl (hb hby at_104) ?_
                show Steps p.tables e below (T34.setTop (mkF m 105 #[.val (.int p0), .val (.int p1), .val (.int p2), .val (.int v2_0), .val (.int v7_0), .val (.ref b12), .val (.ref b19), .val (.ref b19), .val (.int r35), .unset] [(.int (1 : Int32))])) _
                refine XS.goto X34.here hx rfl (pc0 := 105) (pc' := 109) rfl (hb hby at_105) (by decide) (by decide) ?_
                show Steps p.tables e below (T34.setTop (mkF m 109 #[.val (.int p0), .val (.int p1), .val (.int p2), .val (.int v2_0), .val (.int v7_0), .val (.ref b12), .val (.ref b19), .val (.ref b19), .val (.int r35), .unset] [(.int (1 : Int32))])) _
                exact Steps.refl _)
              exact ⟨(1 : Int32), (by rw [if_pos hc101]), K50⟩
            · have K51 : Steps p.tables e below _ (T34.setTop (mkF m 109 #[.val (.int p0), .val (.int p1), .val (.int p2), .val (.int v2_0), .val (.int v7_0), .val (.ref b12), .val (.ref b19), .val (.ref b19), .val (.int r35), .unset] [(.int (0 : Int32))])) := R49.trans (by
                show Steps p.tables e below (T34.setTop (mkF m 101 #[.val (.int p0), .val (.int p1), .val (.int p2), .val (.int v2_0), .val (.int v7_0), .val (.ref b12), .val (.ref b19), .val (.ref b19), .val (.int r35), .unset] [(.int p1), (.int p0)])) _
                refine XS.icmpYes X34.here hx rfl (pc0 := 101) (pc' := 108) rfl (hb hby at_101) rfl (flt hc101).2.2.2 (by decide) (by decide) ?_
                show Steps p.tables e below (T34.setTop (mkF m 108 #[.val (.int p0), .val (.int p1), .val (.int p2), .val (.int v2_0), .val (.int v7_0), .val (.ref b12), .val (.ref b19), .val (.ref b19), .val (.int r35), .unset] [])) _
                refine XS.iconst X34.here hx rfl (hb hby at_108) ?_
                show Steps p.tables e below (T34.setTop (mkF m 109 #[.val (.int p0), .val (.int p1), .val (.int p2), .val (.int v2_0), .val (.int v7_0), .val (.ref b12), .val (.ref b19), .val (.ref b19), .val (.int r35), .unset] [(.int (0 : Int32))])) _
                exact Steps.refl _)
              exact ⟨(0 : Int32), (by rw [if_neg hc101]), K51⟩
          have K52 := K48.trans S49
          have K53 : Steps p.tables e below _ (T34.setTop (mkF m 137 #[.val (.int p0), .val (.int p1), .val (.int p2), .val (.int v2_0), .val (.int v7_0), .val (.ref b12), .val (.ref b19), .val (.ref b19), .val (.int r35), .val (.int v49_0)] [])) := K52.trans (by
            show Steps p.tables e below (T34.setTop (mkF m 109 #[.val (.int p0), .val (.int p1), .val (.int p2), .val (.int v2_0), .val (.int v7_0), .val (.ref b12), .val (.ref b19), .val (.ref b19), .val (.int r35), .unset] [(.int v49_0)])) _
            refine XS.istore X34.here hx rfl (hb hby at_109) rfl (l' := #[.val (.int p0), .val (.int p1), .val (.int p2), .val (.int v2_0), .val (.int v7_0), .val (.ref b12), .val (.ref b19), .val (.ref b19), .val (.int r35), .val (.int v49_0)]) rfl ?_
            show Steps p.tables e below (T34.setTop (mkF m 111 #[.val (.int p0), .val (.int p1), .val (.int p2), .val (.int v2_0), .val (.int v7_0), .val (.ref b12), .val (.ref b19), .val (.ref b19), .val (.int r35), .val (.int v49_0)] [])) _
            refine XS.goto X34.here hx rfl (pc0 := 111) (pc' := 137) rfl (hb hby at_111) (by decide) (by decide) ?_
            show Steps p.tables e below (T34.setTop (mkF m 137 #[.val (.int p0), .val (.int p1), .val (.int p2), .val (.int v2_0), .val (.int v7_0), .val (.ref b12), .val (.ref b19), .val (.ref b19), .val (.int r35), .val (.int v49_0)] [])) _
            exact Steps.refl _)
          subst hv49_0
          exact ⟨(if p1 < p0 then (1 : Int32) else (0 : Int32)), (by rw [if_neg hc81, if_pos hc86]), K53⟩
        · have K54 : Steps p.tables e below _ (T34.setTop (mkF m 137 #[.val (.int p0), .val (.int p1), .val (.int p2), .val (.int v2_0), .val (.int v7_0), .val (.ref b12), .val (.ref b19), .val (.ref b19), .val (.int r35), .val (.int (1 : Int32))] [])) := K47.trans (by
            show Steps p.tables e below (T34.setTop (mkF m 86 #[.val (.int p0), .val (.int p1), .val (.int p2), .val (.int v2_0), .val (.int v7_0), .val (.ref b12), .val (.ref b19), .val (.ref b19), .val (.int r35), .unset] [(.int v7_0)])) _
            refine XS.ifNo X34.here hx rfl (hb hby at_86) rfl ((if0 _ _).trans (feq hc86).1) ?_
            show Steps p.tables e below (T34.setTop (mkF m 89 #[.val (.int p0), .val (.int p1), .val (.int p2), .val (.int v2_0), .val (.int v7_0), .val (.ref b12), .val (.ref b19), .val (.ref b19), .val (.int r35), .unset] [])) _
            refine XS.iconst X34.here hx rfl (hb hby at_89) ?_
            show Steps p.tables e below (T34.setTop (mkF m 90 #[.val (.int p0), .val (.int p1), .val (.int p2), .val (.int v2_0), .val (.int v7_0), .val (.ref b12), .val (.ref b19), .val (.ref b19), .val (.int r35), .unset] [(.int (1 : Int32))])) _
            refine XS.istore X34.here hx rfl (hb hby at_90) rfl (l' := #[.val (.int p0), .val (.int p1), .val (.int p2), .val (.int v2_0), .val (.int v7_0), .val (.ref b12), .val (.ref b19), .val (.ref b19), .val (.int r35), .val (.int (1 : Int32))]) rfl ?_
            show Steps p.tables e below (T34.setTop (mkF m 92 #[.val (.int p0), .val (.int p1), .val (.int p2), .val (.int v2_0), .val (.int v7_0), .val (.ref b12), .val (.ref b19), .val (.ref b19), .val (.int r35), .val (.int (1 : Int32))] [])) _
            refine XS.goto X34.here hx rfl (pc0 := 92) (pc' := 137) rfl (hb hby at_92) (by decide) (by decide) ?_
            show Steps p.tables e below (T34.setTop (mkF m 137 #[.val (.int p0), .val (.int p1), .val (.int p2), .val (.int v2_0), .val (.int v7_0), .val (.ref b12), .val (.ref b19), .val (.ref b19), .val (.int r35), .val (.int (1 : Int32))] [])) _
            exact Steps.refl _)
          exact ⟨(1 : Int32), (by rw [if_neg hc81, if_neg hc86]), K54⟩
    have K55 := K37.trans S38
    have K56 : Steps p.tables e below _ (T34.setTop (mkF m 139 #[.val (.int p0), .val (.int p1), .val (.int p2), .val (.int v2_0), .val (.int v7_0), .val (.ref b12), .val (.ref b19), .val (.ref b19), .val (.int r35), .val (.int v38_0)] [(.ref b19)])) := K55.trans (by
      show Steps p.tables e below (T34.setTop (mkF m 137 #[.val (.int p0), .val (.int p1), .val (.int p2), .val (.int v2_0), .val (.int v7_0), .val (.ref b12), .val (.ref b19), .val (.ref b19), .val (.int r35), .val (.int v38_0)] [])) _
      refine XS.aload X34.here hx rfl (hb hby at_137) rfl rfl ?_
      show Steps p.tables e below (T34.setTop (mkF m 139 #[.val (.int p0), .val (.int p1), .val (.int p2), .val (.int v2_0), .val (.int v7_0), .val (.ref b12), .val (.ref b19), .val (.ref b19), .val (.int r35), .val (.int v38_0)] [(.ref b19)])) _
      exact Steps.refl _)
    obtain ⟨cq57, kq57, q57a, q57b, q57c⟩ := isOf hZ eh34 Q24_0
    obtain ⟨_, _, ⟨T57, L57, k57, n57⟩, -, X57, ⟨Lc57, hQ57, l57, y57, z57⟩, st57⟩ := X34.virtualBack hx (y := (⟨"com/example/relinduct/relinduct/cfa/IntegerType", "bits", "()I"⟩ : MethodName)) (z := (⟨"com/example/relinduct/relinduct/cfa/IntegerType", "bits", "()I"⟩ : MethodName)) hown (mvT hZ (hw _ (List.mem_of_getElem? (i := 27) rfl))) (mvT hZ (hw _ (List.mem_of_getElem? (i := 28) rfl))) (notFace_of_selects (args := #[]) (mvT hZ (hw _ (List.mem_of_getElem? (i := 30) rfl)))) (mvT hZ (hw _ (List.mem_of_getElem? (i := 30) rfl))) (mvT hZ (hw _ (List.mem_of_getElem? (i := 29) rfl))) (by decide) (backOf (W := 0) (rm6 l Z a0 hw [] b19 p1 T24.heap n0 Z_27 Q24_1) hZ (hw _ (List.mem_of_getElem? (i := 31) rfl)) (hw _ (List.mem_of_getElem? (i := 2) rfl)) (by decide) (by decide)) q57a q57c (g := (mkF m 139 #[.val (.int p0), .val (.int p1), .val (.int p2), .val (.int v2_0), .val (.int v7_0), .val (.ref b12), .val (.ref b19), .val (.ref b19), .val (.int r35), .val (.int v38_0)] [(.ref b19)])) rfl (by rw [hml]; rfl) K56 (argsL := []) (rest := []) (lenOf pd_4 rfl) rfl (by show 2 * 0 + _ ≤ _; exact Nat.le_of_eq rfl) (hb hby at_139) (fun _ _ => ⟨rfl, eh34, (by decide : 2 + 0 ≤ _), (by decide : 4 + 0 ≤ _)⟩)
    dsimp only [Pt.U, Pt.locs, Pt.cells, Pt.slots] at X57 l57 y57 z57 st57 hQ57
    subst l57 y57 z57
    obtain ⟨rfl, N57, eh57⟩ := hQ57
    have N57' := Fr.app N34' N57
    have K58 : Steps p.tables e below _ (T57.setTop (mkF m 142 #[.val (.int p0), .val (.int p1), .val (.int p2), .val (.int v2_0), .val (.int v7_0), .val (.ref b12), .val (.ref b19), .val (.ref b19), .val (.int r35), .val (.int v38_0)] [(.int p1)])) := st57
    have K59 : Steps p.tables e below _ (T57.setTop (mkF m 144 #[.val (.int p0), .val (.int p1), .val (.int p2), .val (.int v2_0), .val (.int v7_0), .val (.ref b12), .val (.ref b19), .val (.ref b19), .val (.int r35), .val (.int v38_0)] [(.int r35), (.int p1)])) := K58.trans (by
      show Steps p.tables e below (T57.setTop (mkF m 142 #[.val (.int p0), .val (.int p1), .val (.int p2), .val (.int v2_0), .val (.int v7_0), .val (.ref b12), .val (.ref b19), .val (.ref b19), .val (.int r35), .val (.int v38_0)] [(.int p1)])) _
      refine XS.iload X57.here hx rfl (hb hby at_142) rfl ?_
      show Steps p.tables e below (T57.setTop (mkF m 144 #[.val (.int p0), .val (.int p1), .val (.int p2), .val (.int v2_0), .val (.int v7_0), .val (.ref b12), .val (.ref b19), .val (.ref b19), .val (.int r35), .val (.int v38_0)] [(.int r35), (.int p1)])) _
      exact Steps.refl _)
    obtain ⟨T60, L60, v60_0, X60, e60, N60, hv60_0, S60⟩ : ∃ (T60 : State) (L60 : List Loc) (v60_0 : Int32), Stand p l e room_1 s m #[(.int p0), (.int p1), (.int p2)] below meth c T60 L60 2 4 ∧ T60.heap = T24.heap ∧ Fr n0 L60 ∧ (if p1 = r35 then (if ((v7_0 &&& 1) &&& 1) = v38_0 then (1 : Int32) else (0 : Int32)) else (0 : Int32)) = v60_0 ∧ Steps p.tables e below (T57.setTop (mkF m 144 #[.val (.int p0), .val (.int p1), .val (.int p2), .val (.int v2_0), .val (.int v7_0), .val (.ref b12), .val (.ref b19), .val (.ref b19), .val (.int r35), .val (.int v38_0)] [(.int r35), (.int p1)])) (T60.setTop (mkF m 162 #[.val (.int p0), .val (.int p1), .val (.int p2), .val (.int v2_0), .val (.int v7_0), .val (.ref b12), .val (.ref b19), .val (.ref b19), .val (.int r35), .val (.int v38_0)] [(.int v60_0)])) := by
      have R60 : Steps p.tables e below (T57.setTop (mkF m 144 #[.val (.int p0), .val (.int p1), .val (.int p2), .val (.int v2_0), .val (.int v7_0), .val (.ref b12), .val (.ref b19), .val (.ref b19), .val (.int r35), .val (.int v38_0)] [(.int r35), (.int p1)])) (T57.setTop (mkF m 144 #[.val (.int p0), .val (.int p1), .val (.int p2), .val (.int v2_0), .val (.int v7_0), .val (.ref b12), .val (.ref b19), .val (.ref b19), .val (.int r35), .val (.int v38_0)] [(.int r35), (.int p1)])) := Steps.refl _
      by_cases hc144 : p1 = r35
      · have K61 : Steps p.tables e below _ (T57.setTop (mkF m 149 #[.val (.int p0), .val (.int p1), .val (.int p2), .val (.int v2_0), .val (.int v7_0), .val (.ref b12), .val (.ref b19), .val (.ref b19), .val (.int r35), .val (.int v38_0)] [(.ref b19)])) := R60.trans (by
          show Steps p.tables e below (T57.setTop (mkF m 144 #[.val (.int p0), .val (.int p1), .val (.int p2), .val (.int v2_0), .val (.int v7_0), .val (.ref b12), .val (.ref b19), .val (.ref b19), .val (.int r35), .val (.int v38_0)] [(.int r35), (.int p1)])) _
          refine XS.icmpNo X57.here hx rfl (hb hby at_144) rfl (teq hc144).2 ?_
          show Steps p.tables e below (T57.setTop (mkF m 147 #[.val (.int p0), .val (.int p1), .val (.int p2), .val (.int v2_0), .val (.int v7_0), .val (.ref b12), .val (.ref b19), .val (.ref b19), .val (.int r35), .val (.int v38_0)] [])) _
          refine XS.aload X57.here hx rfl (hb hby at_147) rfl rfl ?_
          show Steps p.tables e below (T57.setTop (mkF m 149 #[.val (.int p0), .val (.int p1), .val (.int p2), .val (.int v2_0), .val (.int v7_0), .val (.ref b12), .val (.ref b19), .val (.ref b19), .val (.int r35), .val (.int v38_0)] [(.ref b19)])) _
          exact Steps.refl _)
        obtain ⟨cq62, kq62, q62a, q62b, q62c⟩ := isOf hZ eh57 Q24_0
        obtain ⟨_, _, ⟨T62, L62, k62, n62⟩, -, X62, ⟨Lc62, hQ62, l62, y62, z62⟩, st62⟩ := X57.virtualBack hx (y := (⟨"com/example/relinduct/relinduct/cfa/IntegerType", "signed", "()Z"⟩ : MethodName)) (z := (⟨"com/example/relinduct/relinduct/cfa/IntegerType", "signed", "()Z"⟩ : MethodName)) hown (mvT hZ (hw _ (List.mem_of_getElem? (i := 32) rfl))) (mvT hZ (hw _ (List.mem_of_getElem? (i := 33) rfl))) (notFace_of_selects (args := #[]) (mvT hZ (hw _ (List.mem_of_getElem? (i := 35) rfl)))) (mvT hZ (hw _ (List.mem_of_getElem? (i := 35) rfl))) (mvT hZ (hw _ (List.mem_of_getElem? (i := 34) rfl))) (by decide) (backOf (W := 0) (rm7 l Z a0 hw [] b19 (v7_0 &&& 1) T24.heap n0 Z_27 Q24_2) hZ (hw _ (List.mem_of_getElem? (i := 36) rfl)) (hw _ (List.mem_of_getElem? (i := 2) rfl)) (by decide) (by decide)) q62a q62c (g := (mkF m 149 #[.val (.int p0), .val (.int p1), .val (.int p2), .val (.int v2_0), .val (.int v7_0), .val (.ref b12), .val (.ref b19), .val (.ref b19), .val (.int r35), .val (.int v38_0)] [(.ref b19)])) rfl (by rw [hml]; rfl) K61 (argsL := []) (rest := []) (lenOf pd_5 rfl) rfl (by show 2 * 0 + _ ≤ _; exact Nat.le_of_eq rfl) (hb hby at_149) (fun _ _ => ⟨rfl, eh57, (by decide : 2 + 0 ≤ _), (by decide : 4 + 0 ≤ _)⟩)
        dsimp only [Pt.U, Pt.locs, Pt.cells, Pt.slots] at X62 l62 y62 z62 st62 hQ62
        subst l62 y62 z62
        obtain ⟨rfl, N62, eh62⟩ := hQ62
        have N62' := Fr.app N57' N62
        have K64 : Steps p.tables e below _ (T62.setTop (mkF m 152 #[.val (.int p0), .val (.int p1), .val (.int p2), .val (.int v2_0), .val (.int v7_0), .val (.ref b12), .val (.ref b19), .val (.ref b19), .val (.int r35), .val (.int v38_0)] [(.int ((v7_0 &&& 1) &&& 1))])) := st62
        obtain ⟨r63, hr63⟩ : ∃ z : Int32, ((v7_0 &&& 1) &&& 1) = z := ⟨_, rfl⟩
        rw [hr63] at K64
        have K65 : Steps p.tables e below _ (T62.setTop (mkF m 154 #[.val (.int p0), .val (.int p1), .val (.int p2), .val (.int v2_0), .val (.int v7_0), .val (.ref b12), .val (.ref b19), .val (.ref b19), .val (.int r35), .val (.int v38_0)] [(.int v38_0), (.int r63)])) := K64.trans (by
          show Steps p.tables e below (T62.setTop (mkF m 152 #[.val (.int p0), .val (.int p1), .val (.int p2), .val (.int v2_0), .val (.int v7_0), .val (.ref b12), .val (.ref b19), .val (.ref b19), .val (.int r35), .val (.int v38_0)] [(.int r63)])) _
          refine XS.iload X62.here hx rfl (hb hby at_152) rfl ?_
          show Steps p.tables e below (T62.setTop (mkF m 154 #[.val (.int p0), .val (.int p1), .val (.int p2), .val (.int v2_0), .val (.int v7_0), .val (.ref b12), .val (.ref b19), .val (.ref b19), .val (.int r35), .val (.int v38_0)] [(.int v38_0), (.int r63)])) _
          exact Steps.refl _)
        by_cases hc154 : r63 = v38_0
        · have K66 : Steps p.tables e below _ (T62.setTop (mkF m 162 #[.val (.int p0), .val (.int p1), .val (.int p2), .val (.int v2_0), .val (.int v7_0), .val (.ref b12), .val (.ref b19), .val (.ref b19), .val (.int r35), .val (.int v38_0)] [(.int (1 : Int32))])) := K65.trans (by
            show Steps p.tables e below (T62.setTop (mkF m 154 #[.val (.int p0), .val (.int p1), .val (.int p2), .val (.int v2_0), .val (.int v7_0), .val (.ref b12), .val (.ref b19), .val (.ref b19), .val (.int r35), .val (.int v38_0)] [(.int v38_0), (.int r63)])) _
            refine XS.icmpNo X62.here hx rfl (hb hby at_154) rfl (teq hc154).2 ?_
            show Steps p.tables e below (T62.setTop (mkF m 157 #[.val (.int p0), .val (.int p1), .val (.int p2), .val (.int v2_0), .val (.int v7_0), .val (.ref b12), .val (.ref b19), .val (.ref b19), .val (.int r35), .val (.int v38_0)] [])) _
            refine XS.iconst X62.here hx rfl (hb hby at_157) ?_
            show Steps p.tables e below (T62.setTop (mkF m 158 #[.val (.int p0), .val (.int p1), .val (.int p2), .val (.int v2_0), .val (.int v7_0), .val (.ref b12), .val (.ref b19), .val (.ref b19), .val (.int r35), .val (.int v38_0)] [(.int (1 : Int32))])) _
            refine XS.goto X62.here hx rfl (pc0 := 158) (pc' := 162) rfl (hb hby at_158) (by decide) (by decide) ?_
            show Steps p.tables e below (T62.setTop (mkF m 162 #[.val (.int p0), .val (.int p1), .val (.int p2), .val (.int v2_0), .val (.int v7_0), .val (.ref b12), .val (.ref b19), .val (.ref b19), .val (.int r35), .val (.int v38_0)] [(.int (1 : Int32))])) _
            exact Steps.refl _)
          subst hr63
          exact ⟨T62, _, (1 : Int32), X62, eh62, N62', (by rw [if_pos hc144, if_pos hc154]), K66⟩
        · have K67 : Steps p.tables e below _ (T62.setTop (mkF m 162 #[.val (.int p0), .val (.int p1), .val (.int p2), .val (.int v2_0), .val (.int v7_0), .val (.ref b12), .val (.ref b19), .val (.ref b19), .val (.int r35), .val (.int v38_0)] [(.int (0 : Int32))])) := K65.trans (by
            show Steps p.tables e below (T62.setTop (mkF m 154 #[.val (.int p0), .val (.int p1), .val (.int p2), .val (.int v2_0), .val (.int v7_0), .val (.ref b12), .val (.ref b19), .val (.ref b19), .val (.int r35), .val (.int v38_0)] [(.int v38_0), (.int r63)])) _
            refine XS.icmpYes X62.here hx rfl (pc0 := 154) (pc' := 161) rfl (hb hby at_154) rfl (feq hc154).2 (by decide) (by decide) ?_
            show Steps p.tables e below (T62.setTop (mkF m 161 #[.val (.int p0), .val (.int p1), .val (.int p2), .val (.int v2_0), .val (.int v7_0), .val (.ref b12), .val (.ref b19), .val (.ref b19), .val (.int r35), .val (.int v38_0)] [])) _
            refine XS.iconst X62.here hx rfl (hb hby at_161) ?_
            show Steps p.tables e below (T62.setTop (mkF m 162 #[.val (.int p0), .val (.int p1), .val (.int p2), .val (.int v2_0), .val (.int v7_0), .val (.ref b12), .val (.ref b19), .val (.ref b19), .val (.int r35), .val (.int v38_0)] [(.int (0 : Int32))])) _
            exact Steps.refl _)
          subst hr63
          exact ⟨T62, _, (0 : Int32), X62, eh62, N62', (by rw [if_pos hc144, if_neg hc154]), K67⟩
      · have K68 : Steps p.tables e below _ (T57.setTop (mkF m 162 #[.val (.int p0), .val (.int p1), .val (.int p2), .val (.int v2_0), .val (.int v7_0), .val (.ref b12), .val (.ref b19), .val (.ref b19), .val (.int r35), .val (.int v38_0)] [(.int (0 : Int32))])) := R60.trans (by
          show Steps p.tables e below (T57.setTop (mkF m 144 #[.val (.int p0), .val (.int p1), .val (.int p2), .val (.int v2_0), .val (.int v7_0), .val (.ref b12), .val (.ref b19), .val (.ref b19), .val (.int r35), .val (.int v38_0)] [(.int r35), (.int p1)])) _
          refine XS.icmpYes X57.here hx rfl (pc0 := 144) (pc' := 161) rfl (hb hby at_144) rfl (feq hc144).2 (by decide) (by decide) ?_
          show Steps p.tables e below (T57.setTop (mkF m 161 #[.val (.int p0), .val (.int p1), .val (.int p2), .val (.int v2_0), .val (.int v7_0), .val (.ref b12), .val (.ref b19), .val (.ref b19), .val (.int r35), .val (.int v38_0)] [])) _
          refine XS.iconst X57.here hx rfl (hb hby at_161) ?_
          show Steps p.tables e below (T57.setTop (mkF m 162 #[.val (.int p0), .val (.int p1), .val (.int p2), .val (.int v2_0), .val (.int v7_0), .val (.ref b12), .val (.ref b19), .val (.ref b19), .val (.int r35), .val (.int v38_0)] [(.int (0 : Int32))])) _
          exact Steps.refl _)
        exact ⟨T57, _, (0 : Int32), X57, eh57, N57', (by rw [if_neg hc144]), K68⟩
    have K69 := K59.trans S60
    have hone : (v60_0 &&& 1) = (1 : Int32) := own_law_0 p0 p1 p2 v2_0 v7_0 r35 v38_0 v60_0 b12 b19 hv2_0 hv7_0 hr35 hv38_0 hv60_0 hsel ne_b12_b19
    obtain ⟨fs, hr, hrun, hended, hW, hsame⟩ := X60.leave (v := some (.int (v60_0 &&& 1))) (fun h => by rw [Bd.returns] at h; cases h)
    exact ⟨_, _, K69.trans (retN X60 hx (t := .boolean) Bd.returns (by simp) (hb hby at_162) hr), hrun, hended, _, _, rfl, ⟨by rw [hone], N60⟩, ⟨_, rfl⟩, hW, hsame.mono (by decide) (by decide)⟩
  · rw [hsel] at K32
    have K70 : Steps p.tables e below _ (T30.setTop (mkF m 75 #[.val (.int p0), .val (.int p1), .val (.int p2), .val (.int v2_0), .val (.int v7_0), .val (.ref b12), .val (.ref b19), .val (.ref b12), .unset, .unset] [(.int p1), (.int p0)])) := K32.trans (by
      show Steps p.tables e below (T30.setTop (mkF m 55 #[.val (.int p0), .val (.int p1), .val (.int p2), .val (.int v2_0), .val (.int v7_0), .val (.ref b12), .val (.ref b19), .unset, .unset, .unset] [(.ref b12)])) _
      refine XS.astore X30.here hx rfl (hb hby at_55) rfl rfl (l' := #[.val (.int p0), .val (.int p1), .val (.int p2), .val (.int v2_0), .val (.int v7_0), .val (.ref b12), .val (.ref b19), .val (.ref b12), .unset, .unset]) rfl ?_
      show Steps p.tables e below (T30.setTop (mkF m 57 #[.val (.int p0), .val (.int p1), .val (.int p2), .val (.int v2_0), .val (.int v7_0), .val (.ref b12), .val (.ref b19), .val (.ref b12), .unset, .unset] [])) _
      refine XS.aload X30.here hx rfl (hb hby at_57) rfl rfl ?_
      show Steps p.tables e below (T30.setTop (mkF m 59 #[.val (.int p0), .val (.int p1), .val (.int p2), .val (.int v2_0), .val (.int v7_0), .val (.ref b12), .val (.ref b19), .val (.ref b12), .unset, .unset] [(.ref b12)])) _
      refine XS.aload X30.here hx rfl (hb hby at_59) rfl rfl ?_
      show Steps p.tables e below (T30.setTop (mkF m 61 #[.val (.int p0), .val (.int p1), .val (.int p2), .val (.int v2_0), .val (.int v7_0), .val (.ref b12), .val (.ref b19), .val (.ref b12), .unset, .unset] [(.ref b12), (.ref b12)])) _
      refine Jvm.RoadKit.acmp (g := (mkF m 61 #[.val (.int p0), .val (.int p1), .val (.int p2), .val (.int v2_0), .val (.int v7_0), .val (.ref b12), .val (.ref b19), .val (.ref b12), .unset, .unset] [(.ref b12), (.ref b12)])) X30 hx rfl rfl rfl (pc0 := 61) (pc' := 73) (same := true) rfl (hb hby at_61) rfl (decide_eq_true rfl) (by decide) (by decide) ?_
      show Steps p.tables e below (T30.setTop (mkF m 73 #[.val (.int p0), .val (.int p1), .val (.int p2), .val (.int v2_0), .val (.int v7_0), .val (.ref b12), .val (.ref b19), .val (.ref b12), .unset, .unset] [])) _
      refine XS.iloadN X30.here hx rfl (hb hby at_73) rfl ?_
      show Steps p.tables e below (T30.setTop (mkF m 74 #[.val (.int p0), .val (.int p1), .val (.int p2), .val (.int v2_0), .val (.int v7_0), .val (.ref b12), .val (.ref b19), .val (.ref b12), .unset, .unset] [(.int p0)])) _
      refine XS.iloadN X30.here hx rfl (hb hby at_74) rfl ?_
      show Steps p.tables e below (T30.setTop (mkF m 75 #[.val (.int p0), .val (.int p1), .val (.int p2), .val (.int v2_0), .val (.int v7_0), .val (.ref b12), .val (.ref b19), .val (.ref b12), .unset, .unset] [(.int p1), (.int p0)])) _
      exact Steps.refl _)
    obtain ⟨_, _, ⟨T71, L71, k71, n71⟩, -, X71, ⟨Lc71, hQ71, l71, y71, z71⟩, st71⟩ := Jvm.LawKit.callS X30 hx (y := (⟨"java/lang/Math", "max", "(II)I"⟩ : MethodName)) hown (mvT hZ (hw _ (List.mem_of_getElem? (i := 23) rfl))) (mvT hZ (hw _ (List.mem_of_getElem? (i := 24) rfl))) (mvT hZ (hw _ (List.mem_of_getElem? (i := 25) rfl))) (mvT hZ (hw _ (List.mem_of_getElem? (i := 26) rfl))) (by decide) (backOf (W := 0) (rm5 l Z a0 hw [] p0 p1 T24.heap n0 Z_27 ) hZ (hw _ (List.mem_of_getElem? (i := 26) rfl)) (hw _ (List.mem_of_getElem? (i := 25) rfl)) (by decide) (by decide)) (g := (mkF m 75 #[.val (.int p0), .val (.int p1), .val (.int p2), .val (.int v2_0), .val (.int v7_0), .val (.ref b12), .val (.ref b19), .val (.ref b12), .unset, .unset] [(.int p1), (.int p0)])) rfl (by rw [hml]; rfl) (argsL := [(.int p0), (.int p1)]) (rest := []) (lenOf pd_3 rfl) rfl (by show 2 * 0 + _ ≤ _; exact Nat.le_of_eq rfl) (hb hby at_75) (fun _ _ => ⟨rfl, eh30, (by decide : 2 + 0 ≤ _), (by decide : 4 + 0 ≤ _)⟩)
    dsimp only [Pt.U, Pt.locs, Pt.cells, Pt.slots] at X71 l71 y71 z71 st71 hQ71
    subst l71 y71 z71
    obtain ⟨rfl, N71, eh71⟩ := hQ71
    have N71' := Fr.app N30' N71
    have K73 : Steps p.tables e below _ (T71.setTop (mkF m 78 #[.val (.int p0), .val (.int p1), .val (.int p2), .val (.int v2_0), .val (.int v7_0), .val (.ref b12), .val (.ref b19), .val (.ref b12), .unset, .unset] [(.int (if p0 < p1 then p1 else p0))])) := K70.trans (st71 _ (Steps.refl _))
    obtain ⟨r72, hr72⟩ : ∃ z : Int32, (if p0 < p1 then p1 else p0) = z := ⟨_, rfl⟩
    rw [hr72] at K73
    have K74 : Steps p.tables e below _ (T71.setTop (mkF m 81 #[.val (.int p0), .val (.int p1), .val (.int p2), .val (.int v2_0), .val (.int v7_0), .val (.ref b12), .val (.ref b19), .val (.ref b12), .val (.int r72), .unset] [(.int v2_0)])) := K73.trans (by
      show Steps p.tables e below (T71.setTop (mkF m 78 #[.val (.int p0), .val (.int p1), .val (.int p2), .val (.int v2_0), .val (.int v7_0), .val (.ref b12), .val (.ref b19), .val (.ref b12), .unset, .unset] [(.int r72)])) _
      refine XS.istore X71.here hx rfl (hb hby at_78) rfl (l' := #[.val (.int p0), .val (.int p1), .val (.int p2), .val (.int v2_0), .val (.int v7_0), .val (.ref b12), .val (.ref b19), .val (.ref b12), .val (.int r72), .unset]) rfl ?_
      show Steps p.tables e below (T71.setTop (mkF m 80 #[.val (.int p0), .val (.int p1), .val (.int p2), .val (.int v2_0), .val (.int v7_0), .val (.ref b12), .val (.ref b19), .val (.ref b12), .val (.int r72), .unset] [])) _
      refine XS.iloadN X71.here hx rfl (hb hby at_80) rfl ?_
      show Steps p.tables e below (T71.setTop (mkF m 81 #[.val (.int p0), .val (.int p1), .val (.int p2), .val (.int v2_0), .val (.int v7_0), .val (.ref b12), .val (.ref b19), .val (.ref b12), .val (.int r72), .unset] [(.int v2_0)])) _
      exact Steps.refl _)
    obtain ⟨v75_0, hv75_0, S75⟩ : ∃ (v75_0 : Int32), (if v2_0 = (0 : Int32) then (if v7_0 = (0 : Int32) then (0 : Int32) else (if p0 < p1 then (1 : Int32) else (0 : Int32))) else (if v7_0 = (0 : Int32) then (if p1 < p0 then (1 : Int32) else (0 : Int32)) else (1 : Int32))) = v75_0 ∧ Steps p.tables e below (T71.setTop (mkF m 81 #[.val (.int p0), .val (.int p1), .val (.int p2), .val (.int v2_0), .val (.int v7_0), .val (.ref b12), .val (.ref b19), .val (.ref b12), .val (.int r72), .unset] [(.int v2_0)])) (T71.setTop (mkF m 137 #[.val (.int p0), .val (.int p1), .val (.int p2), .val (.int v2_0), .val (.int v7_0), .val (.ref b12), .val (.ref b19), .val (.ref b12), .val (.int r72), .val (.int v75_0)] [])) := by
      have R75 : Steps p.tables e below (T71.setTop (mkF m 81 #[.val (.int p0), .val (.int p1), .val (.int p2), .val (.int v2_0), .val (.int v7_0), .val (.ref b12), .val (.ref b19), .val (.ref b12), .val (.int r72), .unset] [(.int v2_0)])) (T71.setTop (mkF m 81 #[.val (.int p0), .val (.int p1), .val (.int p2), .val (.int v2_0), .val (.int v7_0), .val (.ref b12), .val (.ref b19), .val (.ref b12), .val (.int r72), .unset] [(.int v2_0)])) := Steps.refl _
      by_cases hc81 : v2_0 = (0 : Int32)
      · have K76 : Steps p.tables e below _ (T71.setTop (mkF m 116 #[.val (.int p0), .val (.int p1), .val (.int p2), .val (.int v2_0), .val (.int v7_0), .val (.ref b12), .val (.ref b19), .val (.ref b12), .val (.int r72), .unset] [(.int v7_0)])) := R75.trans (by
          show Steps p.tables e below (T71.setTop (mkF m 81 #[.val (.int p0), .val (.int p1), .val (.int p2), .val (.int v2_0), .val (.int v7_0), .val (.ref b12), .val (.ref b19), .val (.ref b12), .val (.int r72), .unset] [(.int v2_0)])) _
          refine XS.ifYes X71.here hx rfl (pc0 := 81) (pc' := 95) rfl (hb hby at_81) rfl ((if0 _ _).trans (teq hc81).1) (by decide) (by decide) ?_
          show Steps p.tables e below (T71.setTop (mkF m 95 #[.val (.int p0), .val (.int p1), .val (.int p2), .val (.int v2_0), .val (.int v7_0), .val (.ref b12), .val (.ref b19), .val (.ref b12), .val (.int r72), .unset] [])) _
          refine XS.iloadN X71.here hx rfl (hb hby at_95) rfl ?_
          show Steps p.tables e below (T71.setTop (mkF m 96 #[.val (.int p0), .val (.int p1), .val (.int p2), .val (.int v2_0), .val (.int v7_0), .val (.ref b12), .val (.ref b19), .val (.ref b12), .val (.int r72), .unset] [(.int v2_0)])) _
          refine XS.ifYes X71.here hx rfl (pc0 := 96) (pc' := 114) rfl (hb hby at_96) rfl ((if0 _ _).trans (teq hc81).1) (by decide) (by decide) ?_
          show Steps p.tables e below (T71.setTop (mkF m 114 #[.val (.int p0), .val (.int p1), .val (.int p2), .val (.int v2_0), .val (.int v7_0), .val (.ref b12), .val (.ref b19), .val (.ref b12), .val (.int r72), .unset] [])) _
          refine XS.iload X71.here hx rfl (hb hby at_114) rfl ?_
          show Steps p.tables e below (T71.setTop (mkF m 116 #[.val (.int p0), .val (.int p1), .val (.int p2), .val (.int v2_0), .val (.int v7_0), .val (.ref b12), .val (.ref b19), .val (.ref b12), .val (.int r72), .unset] [(.int v7_0)])) _
          exact Steps.refl _)
        by_cases hc116 : v7_0 = (0 : Int32)
        · have K77 : Steps p.tables e below _ (T71.setTop (mkF m 137 #[.val (.int p0), .val (.int p1), .val (.int p2), .val (.int v2_0), .val (.int v7_0), .val (.ref b12), .val (.ref b19), .val (.ref b12), .val (.int r72), .val (.int (0 : Int32))] [])) := K76.trans (by
            show Steps p.tables e below (T71.setTop (mkF m 116 #[.val (.int p0), .val (.int p1), .val (.int p2), .val (.int v2_0), .val (.int v7_0), .val (.ref b12), .val (.ref b19), .val (.ref b12), .val (.int r72), .unset] [(.int v7_0)])) _
            refine XS.ifYes X71.here hx rfl (pc0 := 116) (pc' := 134) rfl (hb hby at_116) rfl ((if0 _ _).trans (teq hc116).1) (by decide) (by decide) ?_
            show Steps p.tables e below (T71.setTop (mkF m 134 #[.val (.int p0), .val (.int p1), .val (.int p2), .val (.int v2_0), .val (.int v7_0), .val (.ref b12), .val (.ref b19), .val (.ref b12), .val (.int r72), .unset] [])) _
            refine XS.iconst X71.here hx rfl (hb hby at_134) ?_
            show Steps p.tables e below (T71.setTop (mkF m 135 #[.val (.int p0), .val (.int p1), .val (.int p2), .val (.int v2_0), .val (.int v7_0), .val (.ref b12), .val (.ref b19), .val (.ref b12), .val (.int r72), .unset] [(.int (0 : Int32))])) _
            refine XS.istore X71.here hx rfl (hb hby at_135) rfl (l' := #[.val (.int p0), .val (.int p1), .val (.int p2), .val (.int v2_0), .val (.int v7_0), .val (.ref b12), .val (.ref b19), .val (.ref b12), .val (.int r72), .val (.int (0 : Int32))]) rfl ?_
            show Steps p.tables e below (T71.setTop (mkF m 137 #[.val (.int p0), .val (.int p1), .val (.int p2), .val (.int v2_0), .val (.int v7_0), .val (.ref b12), .val (.ref b19), .val (.ref b12), .val (.int r72), .val (.int (0 : Int32))] [])) _
            exact Steps.refl _)
          exact ⟨(0 : Int32), (by rw [if_pos hc81, if_pos hc116]), K77⟩
        · have K78 : Steps p.tables e below _ (T71.setTop (mkF m 121 #[.val (.int p0), .val (.int p1), .val (.int p2), .val (.int v2_0), .val (.int v7_0), .val (.ref b12), .val (.ref b19), .val (.ref b12), .val (.int r72), .unset] [(.int p0), (.int p1)])) := K76.trans (by
            show Steps p.tables e below (T71.setTop (mkF m 116 #[.val (.int p0), .val (.int p1), .val (.int p2), .val (.int v2_0), .val (.int v7_0), .val (.ref b12), .val (.ref b19), .val (.ref b12), .val (.int r72), .unset] [(.int v7_0)])) _
            refine XS.ifNo X71.here hx rfl (hb hby at_116) rfl ((if0 _ _).trans (feq hc116).1) ?_
            show Steps p.tables e below (T71.setTop (mkF m 119 #[.val (.int p0), .val (.int p1), .val (.int p2), .val (.int v2_0), .val (.int v7_0), .val (.ref b12), .val (.ref b19), .val (.ref b12), .val (.int r72), .unset] [])) _
            refine XS.iloadN X71.here hx rfl (hb hby at_119) rfl ?_
            show Steps p.tables e below (T71.setTop (mkF m 120 #[.val (.int p0), .val (.int p1), .val (.int p2), .val (.int v2_0), .val (.int v7_0), .val (.ref b12), .val (.ref b19), .val (.ref b12), .val (.int r72), .unset] [(.int p1)])) _
            refine XS.iloadN X71.here hx rfl (hb hby at_120) rfl ?_
            show Steps p.tables e below (T71.setTop (mkF m 121 #[.val (.int p0), .val (.int p1), .val (.int p2), .val (.int v2_0), .val (.int v7_0), .val (.ref b12), .val (.ref b19), .val (.ref b12), .val (.int r72), .unset] [(.int p0), (.int p1)])) _
            exact Steps.refl _)
          obtain ⟨v79_0, hv79_0, S79⟩ : ∃ (v79_0 : Int32), (if p0 < p1 then (1 : Int32) else (0 : Int32)) = v79_0 ∧ Steps p.tables e below (T71.setTop (mkF m 121 #[.val (.int p0), .val (.int p1), .val (.int p2), .val (.int v2_0), .val (.int v7_0), .val (.ref b12), .val (.ref b19), .val (.ref b12), .val (.int r72), .unset] [(.int p0), (.int p1)])) (T71.setTop (mkF m 129 #[.val (.int p0), .val (.int p1), .val (.int p2), .val (.int v2_0), .val (.int v7_0), .val (.ref b12), .val (.ref b19), .val (.ref b12), .val (.int r72), .unset] [(.int v79_0)])) := by
            have R79 : Steps p.tables e below (T71.setTop (mkF m 121 #[.val (.int p0), .val (.int p1), .val (.int p2), .val (.int v2_0), .val (.int v7_0), .val (.ref b12), .val (.ref b19), .val (.ref b12), .val (.int r72), .unset] [(.int p0), (.int p1)])) (T71.setTop (mkF m 121 #[.val (.int p0), .val (.int p1), .val (.int p2), .val (.int v2_0), .val (.int v7_0), .val (.ref b12), .val (.ref b19), .val (.ref b12), .val (.int r72), .unset] [(.int p0), (.int p1)])) := Steps.refl _
            by_cases hc121 : p0 < p1
            · have K80 : Steps p.tables e below _ (T71.setTop (mkF m 129 #[.val (.int p0), .val (.int p1), .val (.int p2), .val (.int v2_0), .val (.int v7_0), .val (.ref b12), .val (.ref b19), .val (.ref b12), .val (.int r72), .unset] [(.int (1 : Int32))])) := R79.trans (by
                show Steps p.tables e below (T71.setTop (mkF m 121 #[.val (.int p0), .val (.int p1), .val (.int p2), .val (.int v2_0), .val (.int v7_0), .val (.ref b12), .val (.ref b19), .val (.ref b12), .val (.int r72), .unset] [(.int p0), (.int p1)])) _
                refine XS.icmpNo X71.here hx rfl (hb hby at_121) rfl (tlt hc121).2.2.2 ?_
                show Steps p.tables e below (T71.setTop (mkF m 124 #[.val (.int p0), .val (.int p1), .val (.int p2), .val (.int v2_0), .val (.int v7_0), .val (.ref b12), .val (.ref b19), .val (.ref b12), .val (.int r72), .unset] [])) _
                refine XS.iconst X71.here hx rfl (hb hby at_124) ?_
                show Steps p.tables e below (T71.setTop (mkF m 125 #[.val (.int p0), .val (.int p1), .val (.int p2), .val (.int v2_0), .val (.int v7_0), .val (.ref b12), .val (.ref b19), .val (.ref b12), .val (.int r72), .unset] [(.int (1 : Int32))])) _
                refine XS.goto X71.here hx rfl (pc0 := 125) (pc' := 129) rfl (hb hby at_125) (by decide) (by decide) ?_
                show Steps p.tables e below (T71.setTop (mkF m 129 #[.val (.int p0), .val (.int p1), .val (.int p2), .val (.int v2_0), .val (.int v7_0), .val (.ref b12), .val (.ref b19), .val (.ref b12), .val (.int r72), .unset] [(.int (1 : Int32))])) _
                exact Steps.refl _)
              exact ⟨(1 : Int32), (by rw [if_pos hc121]), K80⟩
            · have K81 : Steps p.tables e below _ (T71.setTop (mkF m 129 #[.val (.int p0), .val (.int p1), .val (.int p2), .val (.int v2_0), .val (.int v7_0), .val (.ref b12), .val (.ref b19), .val (.ref b12), .val (.int r72), .unset] [(.int (0 : Int32))])) := R79.trans (by
                show Steps p.tables e below (T71.setTop (mkF m 121 #[.val (.int p0), .val (.int p1), .val (.int p2), .val (.int v2_0), .val (.int v7_0), .val (.ref b12), .val (.ref b19), .val (.ref b12), .val (.int r72), .unset] [(.int p0), (.int p1)])) _
                refine XS.icmpYes X71.here hx rfl (pc0 := 121) (pc' := 128) rfl (hb hby at_121) rfl (flt hc121).2.2.2 (by decide) (by decide) ?_
                show Steps p.tables e below (T71.setTop (mkF m 128 #[.val (.int p0), .val (.int p1), .val (.int p2), .val (.int v2_0), .val (.int v7_0), .val (.ref b12), .val (.ref b19), .val (.ref b12), .val (.int r72), .unset] [])) _
                refine XS.iconst X71.here hx rfl (hb hby at_128) ?_
                show Steps p.tables e below (T71.setTop (mkF m 129 #[.val (.int p0), .val (.int p1), .val (.int p2), .val (.int v2_0), .val (.int v7_0), .val (.ref b12), .val (.ref b19), .val (.ref b12), .val (.int r72), .unset] [(.int (0 : Int32))])) _
                exact Steps.refl _)
              exact ⟨(0 : Int32), (by rw [if_neg hc121]), K81⟩
          have K82 := K78.trans S79
          have K83 : Steps p.tables e below _ (T71.setTop (mkF m 137 #[.val (.int p0), .val (.int p1), .val (.int p2), .val (.int v2_0), .val (.int v7_0), .val (.ref b12), .val (.ref b19), .val (.ref b12), .val (.int r72), .val (.int v79_0)] [])) := K82.trans (by
            show Steps p.tables e below (T71.setTop (mkF m 129 #[.val (.int p0), .val (.int p1), .val (.int p2), .val (.int v2_0), .val (.int v7_0), .val (.ref b12), .val (.ref b19), .val (.ref b12), .val (.int r72), .unset] [(.int v79_0)])) _
            refine XS.istore X71.here hx rfl (hb hby at_129) rfl (l' := #[.val (.int p0), .val (.int p1), .val (.int p2), .val (.int v2_0), .val (.int v7_0), .val (.ref b12), .val (.ref b19), .val (.ref b12), .val (.int r72), .val (.int v79_0)]) rfl ?_
            show Steps p.tables e below (T71.setTop (mkF m 131 #[.val (.int p0), .val (.int p1), .val (.int p2), .val (.int v2_0), .val (.int v7_0), .val (.ref b12), .val (.ref b19), .val (.ref b12), .val (.int r72), .val (.int v79_0)] [])) _
            refine XS.goto X71.here hx rfl (pc0 := 131) (pc' := 137) rfl (hb hby at_131) (by decide) (by decide) ?_
            show Steps p.tables e below (T71.setTop (mkF m 137 #[.val (.int p0), .val (.int p1), .val (.int p2), .val (.int v2_0), .val (.int v7_0), .val (.ref b12), .val (.ref b19), .val (.ref b12), .val (.int r72), .val (.int v79_0)] [])) _
            exact Steps.refl _)
          subst hv79_0
          exact ⟨(if p0 < p1 then (1 : Int32) else (0 : Int32)), (by rw [if_pos hc81, if_neg hc116]), K83⟩
      · have K84 : Steps p.tables e below _ (T71.setTop (mkF m 86 #[.val (.int p0), .val (.int p1), .val (.int p2), .val (.int v2_0), .val (.int v7_0), .val (.ref b12), .val (.ref b19), .val (.ref b12), .val (.int r72), .unset] [(.int v7_0)])) := R75.trans (by
          show Steps p.tables e below (T71.setTop (mkF m 81 #[.val (.int p0), .val (.int p1), .val (.int p2), .val (.int v2_0), .val (.int v7_0), .val (.ref b12), .val (.ref b19), .val (.ref b12), .val (.int r72), .unset] [(.int v2_0)])) _
          refine XS.ifNo X71.here hx rfl (hb hby at_81) rfl ((if0 _ _).trans (feq hc81).1) ?_
          show Steps p.tables e below (T71.setTop (mkF m 84 #[.val (.int p0), .val (.int p1), .val (.int p2), .val (.int v2_0), .val (.int v7_0), .val (.ref b12), .val (.ref b19), .val (.ref b12), .val (.int r72), .unset] [])) _
          refine XS.iload X71.here hx rfl (hb hby at_84) rfl ?_
          show Steps p.tables e below (T71.setTop (mkF m 86 #[.val (.int p0), .val (.int p1), .val (.int p2), .val (.int v2_0), .val (.int v7_0), .val (.ref b12), .val (.ref b19), .val (.ref b12), .val (.int r72), .unset] [(.int v7_0)])) _
          exact Steps.refl _)
        by_cases hc86 : v7_0 = (0 : Int32)
        · have K85 : Steps p.tables e below _ (T71.setTop (mkF m 101 #[.val (.int p0), .val (.int p1), .val (.int p2), .val (.int v2_0), .val (.int v7_0), .val (.ref b12), .val (.ref b19), .val (.ref b12), .val (.int r72), .unset] [(.int p1), (.int p0)])) := K84.trans (by
            show Steps p.tables e below (T71.setTop (mkF m 86 #[.val (.int p0), .val (.int p1), .val (.int p2), .val (.int v2_0), .val (.int v7_0), .val (.ref b12), .val (.ref b19), .val (.ref b12), .val (.int r72), .unset] [(.int v7_0)])) _
            refine XS.ifYes X71.here hx rfl (pc0 := 86) (pc' := 95) rfl (hb hby at_86) rfl ((if0 _ _).trans (teq hc86).1) (by decide) (by decide) ?_
            show Steps p.tables e below (T71.setTop (mkF m 95 #[.val (.int p0), .val (.int p1), .val (.int p2), .val (.int v2_0), .val (.int v7_0), .val (.ref b12), .val (.ref b19), .val (.ref b12), .val (.int r72), .unset] [])) _
            refine XS.iloadN X71.here hx rfl (hb hby at_95) rfl ?_
            show Steps p.tables e below (T71.setTop (mkF m 96 #[.val (.int p0), .val (.int p1), .val (.int p2), .val (.int v2_0), .val (.int v7_0), .val (.ref b12), .val (.ref b19), .val (.ref b12), .val (.int r72), .unset] [(.int v2_0)])) _
            refine XS.ifNo X71.here hx rfl (hb hby at_96) rfl ((if0 _ _).trans (feq hc81).1) ?_
            show Steps p.tables e below (T71.setTop (mkF m 99 #[.val (.int p0), .val (.int p1), .val (.int p2), .val (.int v2_0), .val (.int v7_0), .val (.ref b12), .val (.ref b19), .val (.ref b12), .val (.int r72), .unset] [])) _
            refine XS.iloadN X71.here hx rfl (hb hby at_99) rfl ?_
            show Steps p.tables e below (T71.setTop (mkF m 100 #[.val (.int p0), .val (.int p1), .val (.int p2), .val (.int v2_0), .val (.int v7_0), .val (.ref b12), .val (.ref b19), .val (.ref b12), .val (.int r72), .unset] [(.int p0)])) _
            refine XS.iloadN X71.here hx rfl (hb hby at_100) rfl ?_
            show Steps p.tables e below (T71.setTop (mkF m 101 #[.val (.int p0), .val (.int p1), .val (.int p2), .val (.int v2_0), .val (.int v7_0), .val (.ref b12), .val (.ref b19), .val (.ref b12), .val (.int r72), .unset] [(.int p1), (.int p0)])) _
            exact Steps.refl _)
          obtain ⟨v86_0, hv86_0, S86⟩ : ∃ (v86_0 : Int32), (if p1 < p0 then (1 : Int32) else (0 : Int32)) = v86_0 ∧ Steps p.tables e below (T71.setTop (mkF m 101 #[.val (.int p0), .val (.int p1), .val (.int p2), .val (.int v2_0), .val (.int v7_0), .val (.ref b12), .val (.ref b19), .val (.ref b12), .val (.int r72), .unset] [(.int p1), (.int p0)])) (T71.setTop (mkF m 109 #[.val (.int p0), .val (.int p1), .val (.int p2), .val (.int v2_0), .val (.int v7_0), .val (.ref b12), .val (.ref b19), .val (.ref b12), .val (.int r72), .unset] [(.int v86_0)])) := by
            have R86 : Steps p.tables e below (T71.setTop (mkF m 101 #[.val (.int p0), .val (.int p1), .val (.int p2), .val (.int v2_0), .val (.int v7_0), .val (.ref b12), .val (.ref b19), .val (.ref b12), .val (.int r72), .unset] [(.int p1), (.int p0)])) (T71.setTop (mkF m 101 #[.val (.int p0), .val (.int p1), .val (.int p2), .val (.int v2_0), .val (.int v7_0), .val (.ref b12), .val (.ref b19), .val (.ref b12), .val (.int r72), .unset] [(.int p1), (.int p0)])) := Steps.refl _
            by_cases hc101 : p1 < p0
            · have K87 : Steps p.tables e below _ (T71.setTop (mkF m 109 #[.val (.int p0), .val (.int p1), .val (.int p2), .val (.int v2_0), .val (.int v7_0), .val (.ref b12), .val (.ref b19), .val (.ref b12), .val (.int r72), .unset] [(.int (1 : Int32))])) := R86.trans (by
                show Steps p.tables e below (T71.setTop (mkF m 101 #[.val (.int p0), .val (.int p1), .val (.int p2), .val (.int v2_0), .val (.int v7_0), .val (.ref b12), .val (.ref b19), .val (.ref b12), .val (.int r72), .unset] [(.int p1), (.int p0)])) _
                refine XS.icmpNo X71.here hx rfl (hb hby at_101) rfl (tlt hc101).2.2.2 ?_
                show Steps p.tables e below (T71.setTop (mkF m 104 #[.val (.int p0), .val (.int p1), .val (.int p2), .val (.int v2_0), .val (.int v7_0), .val (.ref b12), .val (.ref b19), .val (.ref b12), .val (.int r72), .unset] [])) _
                refine XS.iconst X71.here hx rfl (hb hby at_104) ?_
                show Steps p.tables e below (T71.setTop (mkF m 105 #[.val (.int p0), .val (.int p1), .val (.int p2), .val (.int v2_0), .val (.int v7_0), .val (.ref b12), .val (.ref b19), .val (.ref b12), .val (.int r72), .unset] [(.int (1 : Int32))])) _
                refine XS.goto X71.here hx rfl (pc0 := 105) (pc' := 109) rfl (hb hby at_105) (by decide) (by decide) ?_
                show Steps p.tables e below (T71.setTop (mkF m 109 #[.val (.int p0), .val (.int p1), .val (.int p2), .val (.int v2_0), .val (.int v7_0), .val (.ref b12), .val (.ref b19), .val (.ref b12), .val (.int r72), .unset] [(.int (1 : Int32))])) _
                exact Steps.refl _)
              exact ⟨(1 : Int32), (by rw [if_pos hc101]), K87⟩
            · have K88 : Steps p.tables e below _ (T71.setTop (mkF m 109 #[.val (.int p0), .val (.int p1), .val (.int p2), .val (.int v2_0), .val (.int v7_0), .val (.ref b12), .val (.ref b19), .val (.ref b12), .val (.int r72), .unset] [(.int (0 : Int32))])) := R86.trans (by
                show Steps p.tables e below (T71.setTop (mkF m 101 #[.val (.int p0), .val (.int p1), .val (.int p2), .val (.int v2_0), .val (.int v7_0), .val (.ref b12), .val (.ref b19), .val (.ref b12), .val (.int r72), .unset] [(.int p1), (.int p0)])) _
                refine XS.icmpYes X71.here hx rfl (pc0 := 101) (pc' := 108) rfl (hb hby at_101) rfl (flt hc101).2.2.2 (by decide) (by decide) ?_
                show Steps p.tables e below (T71.setTop (mkF m 108 #[.val (.int p0), .val (.int p1), .val (.int p2), .val (.int v2_0), .val (.int v7_0), .val (.ref b12), .val (.ref b19), .val (.ref b12), .val (.int r72), .unset] [])) _
                refine XS.iconst X71.here hx rfl (hb hby at_108) ?_
                show Steps p.tables e below (T71.setTop (mkF m 109 #[.val (.int p0), .val (.int p1), .val (.int p2), .val (.int v2_0), .val (.int v7_0), .val (.ref b12), .val (.ref b19), .val (.ref b12), .val (.int r72), .unset] [(.int (0 : Int32))])) _
                exact Steps.refl _)
              exact ⟨(0 : Int32), (by rw [if_neg hc101]), K88⟩
          have K89 := K85.trans S86
          have K90 : Steps p.tables e below _ (T71.setTop (mkF m 137 #[.val (.int p0), .val (.int p1), .val (.int p2), .val (.int v2_0), .val (.int v7_0), .val (.ref b12), .val (.ref b19), .val (.ref b12), .val (.int r72), .val (.int v86_0)] [])) := K89.trans (by
            show Steps p.tables e below (T71.setTop (mkF m 109 #[.val (.int p0), .val (.int p1), .val (.int p2), .val (.int v2_0), .val (.int v7_0), .val (.ref b12), .val (.ref b19), .val (.ref b12), .val (.int r72), .unset] [(.int v86_0)])) _
            refine XS.istore X71.here hx rfl (hb hby at_109) rfl (l' := #[.val (.int p0), .val (.int p1), .val (.int p2), .val (.int v2_0), .val (.int v7_0), .val (.ref b12), .val (.ref b19), .val (.ref b12), .val (.int r72), .val (.int v86_0)]) rfl ?_
            show Steps p.tables e below (T71.setTop (mkF m 111 #[.val (.int p0), .val (.int p1), .val (.int p2), .val (.int v2_0), .val (.int v7_0), .val (.ref b12), .val (.ref b19), .val (.ref b12), .val (.int r72), .val (.int v86_0)] [])) _
            refine XS.goto X71.here hx rfl (pc0 := 111) (pc' := 137) rfl (hb hby at_111) (by decide) (by decide) ?_
            show Steps p.tables e below (T71.setTop (mkF m 137 #[.val (.int p0), .val (.int p1), .val (.int p2), .val (.int v2_0), .val (.int v7_0), .val (.ref b12), .val (.ref b19), .val (.ref b12), .val (.int r72), .val (.int v86_0)] [])) _
            exact Steps.refl _)
          subst hv86_0
          exact ⟨(if p1 < p0 then (1 : Int32) else (0 : Int32)), (by rw [if_neg hc81, if_pos hc86]), K90⟩
        · have K91 : Steps p.tables e below _ (T71.setTop (mkF m 137 #[.val (.int p0), .val (.int p1), .val (.int p2), .val (.int v2_0), .val (.int v7_0), .val (.ref b12), .val (.ref b19), .val (.ref b12), .val (.int r72), .val (.int (1 : Int32))] [])) := K84.trans (by
            show Steps p.tables e below (T71.setTop (mkF m 86 #[.val (.int p0), .val (.int p1), .val (.int p2), .val (.int v2_0), .val (.int v7_0), .val (.ref b12), .val (.ref b19), .val (.ref b12), .val (.int r72), .unset] [(.int v7_0)])) _
            refine XS.ifNo X71.here hx rfl (hb hby at_86) rfl ((if0 _ _).trans (feq hc86).1) ?_
            show Steps p.tables e below (T71.setTop (mkF m 89 #[.val (.int p0), .val (.int p1), .val (.int p2), .val (.int v2_0), .val (.int v7_0), .val (.ref b12), .val (.ref b19), .val (.ref b12), .val (.int r72), .unset] [])) _
            refine XS.iconst X71.here hx rfl (hb hby at_89) ?_
            show Steps p.tables e below (T71.setTop (mkF m 90 #[.val (.int p0), .val (.int p1), .val (.int p2), .val (.int v2_0), .val (.int v7_0), .val (.ref b12), .val (.ref b19), .val (.ref b12), .val (.int r72), .unset] [(.int (1 : Int32))])) _
            refine XS.istore X71.here hx rfl (hb hby at_90) rfl (l' := #[.val (.int p0), .val (.int p1), .val (.int p2), .val (.int v2_0), .val (.int v7_0), .val (.ref b12), .val (.ref b19), .val (.ref b12), .val (.int r72), .val (.int (1 : Int32))]) rfl ?_
            show Steps p.tables e below (T71.setTop (mkF m 92 #[.val (.int p0), .val (.int p1), .val (.int p2), .val (.int v2_0), .val (.int v7_0), .val (.ref b12), .val (.ref b19), .val (.ref b12), .val (.int r72), .val (.int (1 : Int32))] [])) _
            refine XS.goto X71.here hx rfl (pc0 := 92) (pc' := 137) rfl (hb hby at_92) (by decide) (by decide) ?_
            show Steps p.tables e below (T71.setTop (mkF m 137 #[.val (.int p0), .val (.int p1), .val (.int p2), .val (.int v2_0), .val (.int v7_0), .val (.ref b12), .val (.ref b19), .val (.ref b12), .val (.int r72), .val (.int (1 : Int32))] [])) _
            exact Steps.refl _)
          exact ⟨(1 : Int32), (by rw [if_neg hc81, if_neg hc86]), K91⟩
    have K92 := K74.trans S75
    have K93 : Steps p.tables e below _ (T71.setTop (mkF m 139 #[.val (.int p0), .val (.int p1), .val (.int p2), .val (.int v2_0), .val (.int v7_0), .val (.ref b12), .val (.ref b19), .val (.ref b12), .val (.int r72), .val (.int v75_0)] [(.ref b12)])) := K92.trans (by
      show Steps p.tables e below (T71.setTop (mkF m 137 #[.val (.int p0), .val (.int p1), .val (.int p2), .val (.int v2_0), .val (.int v7_0), .val (.ref b12), .val (.ref b19), .val (.ref b12), .val (.int r72), .val (.int v75_0)] [])) _
      refine XS.aload X71.here hx rfl (hb hby at_137) rfl rfl ?_
      show Steps p.tables e below (T71.setTop (mkF m 139 #[.val (.int p0), .val (.int p1), .val (.int p2), .val (.int v2_0), .val (.int v7_0), .val (.ref b12), .val (.ref b19), .val (.ref b12), .val (.int r72), .val (.int v75_0)] [(.ref b12)])) _
      exact Steps.refl _)
    obtain ⟨cq94, kq94, q94a, q94b, q94c⟩ := isOf hZ eh71 E_31
    obtain ⟨_, _, ⟨T94, L94, k94, n94⟩, -, X94, ⟨Lc94, hQ94, l94, y94, z94⟩, st94⟩ := X71.virtualBack hx (y := (⟨"com/example/relinduct/relinduct/cfa/IntegerType", "bits", "()I"⟩ : MethodName)) (z := (⟨"com/example/relinduct/relinduct/cfa/IntegerType", "bits", "()I"⟩ : MethodName)) hown (mvT hZ (hw _ (List.mem_of_getElem? (i := 27) rfl))) (mvT hZ (hw _ (List.mem_of_getElem? (i := 28) rfl))) (notFace_of_selects (args := #[]) (mvT hZ (hw _ (List.mem_of_getElem? (i := 30) rfl)))) (mvT hZ (hw _ (List.mem_of_getElem? (i := 30) rfl))) (mvT hZ (hw _ (List.mem_of_getElem? (i := 29) rfl))) (by decide) (backOf (W := 0) (rm6 l Z a0 hw [] b12 p0 T24.heap n0 Z_27 F_29) hZ (hw _ (List.mem_of_getElem? (i := 31) rfl)) (hw _ (List.mem_of_getElem? (i := 2) rfl)) (by decide) (by decide)) q94a q94c (g := (mkF m 139 #[.val (.int p0), .val (.int p1), .val (.int p2), .val (.int v2_0), .val (.int v7_0), .val (.ref b12), .val (.ref b19), .val (.ref b12), .val (.int r72), .val (.int v75_0)] [(.ref b12)])) rfl (by rw [hml]; rfl) K93 (argsL := []) (rest := []) (lenOf pd_4 rfl) rfl (by show 2 * 0 + _ ≤ _; exact Nat.le_of_eq rfl) (hb hby at_139) (fun _ _ => ⟨rfl, eh71, (by decide : 2 + 0 ≤ _), (by decide : 4 + 0 ≤ _)⟩)
    dsimp only [Pt.U, Pt.locs, Pt.cells, Pt.slots] at X94 l94 y94 z94 st94 hQ94
    subst l94 y94 z94
    obtain ⟨rfl, N94, eh94⟩ := hQ94
    have N94' := Fr.app N71' N94
    have K95 : Steps p.tables e below _ (T94.setTop (mkF m 142 #[.val (.int p0), .val (.int p1), .val (.int p2), .val (.int v2_0), .val (.int v7_0), .val (.ref b12), .val (.ref b19), .val (.ref b12), .val (.int r72), .val (.int v75_0)] [(.int p0)])) := st94
    have K96 : Steps p.tables e below _ (T94.setTop (mkF m 144 #[.val (.int p0), .val (.int p1), .val (.int p2), .val (.int v2_0), .val (.int v7_0), .val (.ref b12), .val (.ref b19), .val (.ref b12), .val (.int r72), .val (.int v75_0)] [(.int r72), (.int p0)])) := K95.trans (by
      show Steps p.tables e below (T94.setTop (mkF m 142 #[.val (.int p0), .val (.int p1), .val (.int p2), .val (.int v2_0), .val (.int v7_0), .val (.ref b12), .val (.ref b19), .val (.ref b12), .val (.int r72), .val (.int v75_0)] [(.int p0)])) _
      refine XS.iload X94.here hx rfl (hb hby at_142) rfl ?_
      show Steps p.tables e below (T94.setTop (mkF m 144 #[.val (.int p0), .val (.int p1), .val (.int p2), .val (.int v2_0), .val (.int v7_0), .val (.ref b12), .val (.ref b19), .val (.ref b12), .val (.int r72), .val (.int v75_0)] [(.int r72), (.int p0)])) _
      exact Steps.refl _)
    obtain ⟨T97, L97, v97_0, X97, e97, N97, hv97_0, S97⟩ : ∃ (T97 : State) (L97 : List Loc) (v97_0 : Int32), Stand p l e room_1 s m #[(.int p0), (.int p1), (.int p2)] below meth c T97 L97 2 4 ∧ T97.heap = T24.heap ∧ Fr n0 L97 ∧ (if p0 = r72 then (if ((v2_0 &&& 1) &&& 1) = v75_0 then (1 : Int32) else (0 : Int32)) else (0 : Int32)) = v97_0 ∧ Steps p.tables e below (T94.setTop (mkF m 144 #[.val (.int p0), .val (.int p1), .val (.int p2), .val (.int v2_0), .val (.int v7_0), .val (.ref b12), .val (.ref b19), .val (.ref b12), .val (.int r72), .val (.int v75_0)] [(.int r72), (.int p0)])) (T97.setTop (mkF m 162 #[.val (.int p0), .val (.int p1), .val (.int p2), .val (.int v2_0), .val (.int v7_0), .val (.ref b12), .val (.ref b19), .val (.ref b12), .val (.int r72), .val (.int v75_0)] [(.int v97_0)])) := by
      have R97 : Steps p.tables e below (T94.setTop (mkF m 144 #[.val (.int p0), .val (.int p1), .val (.int p2), .val (.int v2_0), .val (.int v7_0), .val (.ref b12), .val (.ref b19), .val (.ref b12), .val (.int r72), .val (.int v75_0)] [(.int r72), (.int p0)])) (T94.setTop (mkF m 144 #[.val (.int p0), .val (.int p1), .val (.int p2), .val (.int v2_0), .val (.int v7_0), .val (.ref b12), .val (.ref b19), .val (.ref b12), .val (.int r72), .val (.int v75_0)] [(.int r72), (.int p0)])) := Steps.refl _
      by_cases hc144 : p0 = r72
      · have K98 : Steps p.tables e below _ (T94.setTop (mkF m 149 #[.val (.int p0), .val (.int p1), .val (.int p2), .val (.int v2_0), .val (.int v7_0), .val (.ref b12), .val (.ref b19), .val (.ref b12), .val (.int r72), .val (.int v75_0)] [(.ref b12)])) := R97.trans (by
          show Steps p.tables e below (T94.setTop (mkF m 144 #[.val (.int p0), .val (.int p1), .val (.int p2), .val (.int v2_0), .val (.int v7_0), .val (.ref b12), .val (.ref b19), .val (.ref b12), .val (.int r72), .val (.int v75_0)] [(.int r72), (.int p0)])) _
          refine XS.icmpNo X94.here hx rfl (hb hby at_144) rfl (teq hc144).2 ?_
          show Steps p.tables e below (T94.setTop (mkF m 147 #[.val (.int p0), .val (.int p1), .val (.int p2), .val (.int v2_0), .val (.int v7_0), .val (.ref b12), .val (.ref b19), .val (.ref b12), .val (.int r72), .val (.int v75_0)] [])) _
          refine XS.aload X94.here hx rfl (hb hby at_147) rfl rfl ?_
          show Steps p.tables e below (T94.setTop (mkF m 149 #[.val (.int p0), .val (.int p1), .val (.int p2), .val (.int v2_0), .val (.int v7_0), .val (.ref b12), .val (.ref b19), .val (.ref b12), .val (.int r72), .val (.int v75_0)] [(.ref b12)])) _
          exact Steps.refl _)
        obtain ⟨cq99, kq99, q99a, q99b, q99c⟩ := isOf hZ eh94 E_31
        obtain ⟨_, _, ⟨T99, L99, k99, n99⟩, -, X99, ⟨Lc99, hQ99, l99, y99, z99⟩, st99⟩ := X94.virtualBack hx (y := (⟨"com/example/relinduct/relinduct/cfa/IntegerType", "signed", "()Z"⟩ : MethodName)) (z := (⟨"com/example/relinduct/relinduct/cfa/IntegerType", "signed", "()Z"⟩ : MethodName)) hown (mvT hZ (hw _ (List.mem_of_getElem? (i := 32) rfl))) (mvT hZ (hw _ (List.mem_of_getElem? (i := 33) rfl))) (notFace_of_selects (args := #[]) (mvT hZ (hw _ (List.mem_of_getElem? (i := 35) rfl)))) (mvT hZ (hw _ (List.mem_of_getElem? (i := 35) rfl))) (mvT hZ (hw _ (List.mem_of_getElem? (i := 34) rfl))) (by decide) (backOf (W := 0) (rm7 l Z a0 hw [] b12 (v2_0 &&& 1) T24.heap n0 Z_27 F_28) hZ (hw _ (List.mem_of_getElem? (i := 36) rfl)) (hw _ (List.mem_of_getElem? (i := 2) rfl)) (by decide) (by decide)) q99a q99c (g := (mkF m 149 #[.val (.int p0), .val (.int p1), .val (.int p2), .val (.int v2_0), .val (.int v7_0), .val (.ref b12), .val (.ref b19), .val (.ref b12), .val (.int r72), .val (.int v75_0)] [(.ref b12)])) rfl (by rw [hml]; rfl) K98 (argsL := []) (rest := []) (lenOf pd_5 rfl) rfl (by show 2 * 0 + _ ≤ _; exact Nat.le_of_eq rfl) (hb hby at_149) (fun _ _ => ⟨rfl, eh94, (by decide : 2 + 0 ≤ _), (by decide : 4 + 0 ≤ _)⟩)
        dsimp only [Pt.U, Pt.locs, Pt.cells, Pt.slots] at X99 l99 y99 z99 st99 hQ99
        subst l99 y99 z99
        obtain ⟨rfl, N99, eh99⟩ := hQ99
        have N99' := Fr.app N94' N99
        have K101 : Steps p.tables e below _ (T99.setTop (mkF m 152 #[.val (.int p0), .val (.int p1), .val (.int p2), .val (.int v2_0), .val (.int v7_0), .val (.ref b12), .val (.ref b19), .val (.ref b12), .val (.int r72), .val (.int v75_0)] [(.int ((v2_0 &&& 1) &&& 1))])) := st99
        obtain ⟨r100, hr100⟩ : ∃ z : Int32, ((v2_0 &&& 1) &&& 1) = z := ⟨_, rfl⟩
        rw [hr100] at K101
        have K102 : Steps p.tables e below _ (T99.setTop (mkF m 154 #[.val (.int p0), .val (.int p1), .val (.int p2), .val (.int v2_0), .val (.int v7_0), .val (.ref b12), .val (.ref b19), .val (.ref b12), .val (.int r72), .val (.int v75_0)] [(.int v75_0), (.int r100)])) := K101.trans (by
          show Steps p.tables e below (T99.setTop (mkF m 152 #[.val (.int p0), .val (.int p1), .val (.int p2), .val (.int v2_0), .val (.int v7_0), .val (.ref b12), .val (.ref b19), .val (.ref b12), .val (.int r72), .val (.int v75_0)] [(.int r100)])) _
          refine XS.iload X99.here hx rfl (hb hby at_152) rfl ?_
          show Steps p.tables e below (T99.setTop (mkF m 154 #[.val (.int p0), .val (.int p1), .val (.int p2), .val (.int v2_0), .val (.int v7_0), .val (.ref b12), .val (.ref b19), .val (.ref b12), .val (.int r72), .val (.int v75_0)] [(.int v75_0), (.int r100)])) _
          exact Steps.refl _)
        by_cases hc154 : r100 = v75_0
        · have K103 : Steps p.tables e below _ (T99.setTop (mkF m 162 #[.val (.int p0), .val (.int p1), .val (.int p2), .val (.int v2_0), .val (.int v7_0), .val (.ref b12), .val (.ref b19), .val (.ref b12), .val (.int r72), .val (.int v75_0)] [(.int (1 : Int32))])) := K102.trans (by
            show Steps p.tables e below (T99.setTop (mkF m 154 #[.val (.int p0), .val (.int p1), .val (.int p2), .val (.int v2_0), .val (.int v7_0), .val (.ref b12), .val (.ref b19), .val (.ref b12), .val (.int r72), .val (.int v75_0)] [(.int v75_0), (.int r100)])) _
            refine XS.icmpNo X99.here hx rfl (hb hby at_154) rfl (teq hc154).2 ?_
            show Steps p.tables e below (T99.setTop (mkF m 157 #[.val (.int p0), .val (.int p1), .val (.int p2), .val (.int v2_0), .val (.int v7_0), .val (.ref b12), .val (.ref b19), .val (.ref b12), .val (.int r72), .val (.int v75_0)] [])) _
            refine XS.iconst X99.here hx rfl (hb hby at_157) ?_
            show Steps p.tables e below (T99.setTop (mkF m 158 #[.val (.int p0), .val (.int p1), .val (.int p2), .val (.int v2_0), .val (.int v7_0), .val (.ref b12), .val (.ref b19), .val (.ref b12), .val (.int r72), .val (.int v75_0)] [(.int (1 : Int32))])) _
            refine XS.goto X99.here hx rfl (pc0 := 158) (pc' := 162) rfl (hb hby at_158) (by decide) (by decide) ?_
            show Steps p.tables e below (T99.setTop (mkF m 162 #[.val (.int p0), .val (.int p1), .val (.int p2), .val (.int v2_0), .val (.int v7_0), .val (.ref b12), .val (.ref b19), .val (.ref b12), .val (.int r72), .val (.int v75_0)] [(.int (1 : Int32))])) _
            exact Steps.refl _)
          subst hr100
          exact ⟨T99, _, (1 : Int32), X99, eh99, N99', (by rw [if_pos hc144, if_pos hc154]), K103⟩
        · have K104 : Steps p.tables e below _ (T99.setTop (mkF m 162 #[.val (.int p0), .val (.int p1), .val (.int p2), .val (.int v2_0), .val (.int v7_0), .val (.ref b12), .val (.ref b19), .val (.ref b12), .val (.int r72), .val (.int v75_0)] [(.int (0 : Int32))])) := K102.trans (by
            show Steps p.tables e below (T99.setTop (mkF m 154 #[.val (.int p0), .val (.int p1), .val (.int p2), .val (.int v2_0), .val (.int v7_0), .val (.ref b12), .val (.ref b19), .val (.ref b12), .val (.int r72), .val (.int v75_0)] [(.int v75_0), (.int r100)])) _
            refine XS.icmpYes X99.here hx rfl (pc0 := 154) (pc' := 161) rfl (hb hby at_154) rfl (feq hc154).2 (by decide) (by decide) ?_
            show Steps p.tables e below (T99.setTop (mkF m 161 #[.val (.int p0), .val (.int p1), .val (.int p2), .val (.int v2_0), .val (.int v7_0), .val (.ref b12), .val (.ref b19), .val (.ref b12), .val (.int r72), .val (.int v75_0)] [])) _
            refine XS.iconst X99.here hx rfl (hb hby at_161) ?_
            show Steps p.tables e below (T99.setTop (mkF m 162 #[.val (.int p0), .val (.int p1), .val (.int p2), .val (.int v2_0), .val (.int v7_0), .val (.ref b12), .val (.ref b19), .val (.ref b12), .val (.int r72), .val (.int v75_0)] [(.int (0 : Int32))])) _
            exact Steps.refl _)
          subst hr100
          exact ⟨T99, _, (0 : Int32), X99, eh99, N99', (by rw [if_pos hc144, if_neg hc154]), K104⟩
      · have K105 : Steps p.tables e below _ (T94.setTop (mkF m 162 #[.val (.int p0), .val (.int p1), .val (.int p2), .val (.int v2_0), .val (.int v7_0), .val (.ref b12), .val (.ref b19), .val (.ref b12), .val (.int r72), .val (.int v75_0)] [(.int (0 : Int32))])) := R97.trans (by
          show Steps p.tables e below (T94.setTop (mkF m 144 #[.val (.int p0), .val (.int p1), .val (.int p2), .val (.int v2_0), .val (.int v7_0), .val (.ref b12), .val (.ref b19), .val (.ref b12), .val (.int r72), .val (.int v75_0)] [(.int r72), (.int p0)])) _
          refine XS.icmpYes X94.here hx rfl (pc0 := 144) (pc' := 161) rfl (hb hby at_144) rfl (feq hc144).2 (by decide) (by decide) ?_
          show Steps p.tables e below (T94.setTop (mkF m 161 #[.val (.int p0), .val (.int p1), .val (.int p2), .val (.int v2_0), .val (.int v7_0), .val (.ref b12), .val (.ref b19), .val (.ref b12), .val (.int r72), .val (.int v75_0)] [])) _
          refine XS.iconst X94.here hx rfl (hb hby at_161) ?_
          show Steps p.tables e below (T94.setTop (mkF m 162 #[.val (.int p0), .val (.int p1), .val (.int p2), .val (.int v2_0), .val (.int v7_0), .val (.ref b12), .val (.ref b19), .val (.ref b12), .val (.int r72), .val (.int v75_0)] [(.int (0 : Int32))])) _
          exact Steps.refl _)
        exact ⟨T94, _, (0 : Int32), X94, eh94, N94', (by rw [if_neg hc144]), K105⟩
    have K106 := K96.trans S97
    have hone : (v97_0 &&& 1) = (1 : Int32) := own_law_1 p0 p1 p2 v2_0 v7_0 r72 v75_0 v97_0 b12 b19 hv2_0 hv7_0 hr72 hv75_0 hv97_0 hsel ne_b12_b19
    obtain ⟨fs, hr, hrun, hended, hW, hsame⟩ := X97.leave (v := some (.int (v97_0 &&& 1))) (fun h => by rw [Bd.returns] at h; cases h)
    exact ⟨_, _, K106.trans (retN X97 hx (t := .boolean) Bd.returns (by simp) (hb hby at_162) hr), hrun, hended, _, _, rfl, ⟨by rw [hone], N97⟩, ⟨_, rfl⟩, hW, hsame.mono (by decide) (by decide)⟩
set_option maxRecDepth 65536 in
set_option maxHeartbeats 40000000 in
theorem comes_1 {Post : Tables → Env → Array Value → State → Outcome → State → Prop} (hpost : ∀ tb e args s v u, (limb_1_1.after args s (.returned v) u = true ∧ limb_1_2.after args s (.returned v) u = true ∧ True) → FrameEnd s (.returned v) u (Jvm.fieldLocs frame_1_writes args s ++ Jvm.arrayLocs frame_1_arrays args s ++ Jvm.staticLocs frame_1_statics s) 16 128 → Post tb e args s (.returned v) u) :
    ArmFor flags0 classFile x code maxLocals ret World_1 tables_1 room_1 Calls_1 rest_1 Pre_1 Post := by
  intro l hfl _ _ p e ha hc hk s m args below hf hA hF happ hP
  obtain ⟨hcalls, hrest, hpre⟩ := hP
  obtain ⟨-, -, -, hnamed, -, -, -, hat⟩ := (Spec.applies_iff hf).mp happ
  obtain ⟨hg, hn⟩ := and_e (Cond.before_iff.mp (show (Jvm.Cond.and given_1 narrow_1).before args s = true from hpre))
  obtain ⟨g1, g2⟩ := and_e hg
  obtain ⟨g3, g4⟩ := and_e g2
  obtain ⟨g5, g6⟩ := and_e g4
  obtain ⟨w0, w1, w2, rfl⟩ : ∃ w0 w1 w2 : Value, args = #[w0, w1, w2] := by
    have hs : args.size = 3 := by simpa [Cond.value, given_1] using g1
    obtain ⟨L⟩ := args
    match L, hs with
    | [w0, w1, w2], _ => exact ⟨w0, w1, w2, rfl⟩
  have hw := fun d (hd : d ∈ tables_1) => atoms_spec (ws := Jvm.Cond.code x code maxLocals ret :: tables_1) hat d (List.mem_cons_of_mem _ hd)
  obtain ⟨i0, ei0⟩ := is_v g3
  obtain rfl : w0 = (.int i0) := Option.some.inj ei0
  obtain ⟨i1, ei1⟩ := is_v g5
  obtain rfl : w1 = (.int i1) := Option.some.inj ei1
  obtain ⟨i2, ei2⟩ := is_v g6
  obtain rfl : w2 = (.int i2) := Option.some.inj ei2
  obtain ⟨n, o, h1, h2, h3, _, L, rfl, ⟨rfl, N⟩, hq⟩ := rm0 l s _ hw tables_1 i0 i1 i2 s.heap s.heap.size (Nat.le_refl _) p e ha hc hk s m _ below hf ((Spec.applies_iff_loose hf).mp happ).1 ⟨rfl, State.Warmed39.refl s, rfl⟩ trivial
  refine ⟨n, _, h1, h2, h3, hpost _ _ _ _ _ _ ⟨Cond.after_iff.mpr rfl, Cond.after_iff.mpr (eq_i res_at (Term.int_eval (1)) rfl), trivial⟩ ⟨hq.1, hq.2.1, (hq.2.2.sift fun y hy => Or.inr (N y hy)).mono (by decide) (by decide)⟩⟩
theorem main_1_1 : Claimed_1_1 := comes_1 fun _ _ _ _ _ _ h hF => ⟨h.1, hF⟩
theorem main_1_2 : Claimed_1_2 := comes_1 fun _ _ _ _ _ _ h hF => ⟨h.2.1, hF⟩
end Jvm.Pilot.@@N@@
namespace Jvm.Pilot.@@N@@
open Jvm Jvm.ClassFile Sem Op Lib Jvm.Free Jvm.Stand Jvm.Pilot.@@N@@.Jvm.D
/-! MADE BY PROGRAM (witnessworld.py) out of the Statement's table words and the real class files: 11 classes; the members and pool entries that the words name. The judged class is class 1, her method 1. -/
namespace start1
open Jvm.ClassFile
def u (s : String) : CpInfo := .utf8 (stringToUtf16 s)
/-- a pool by its gaps: so many unusable entries, then the entry; so many at the end -/
def gap : Nat → List CpInfo → List CpInfo
  | 0, r => r
  | n + 1, r => .unusable :: gap n r
def poolList (es : List (Nat × CpInfo)) (last : Nat) : List CpInfo := es.foldr (fun e r => gap e.1 (e.2 :: r)) (gap last [])
def pool (es : List (Nat × CpInfo)) (last : Nat) : Array CpInfo := ⟨poolList es last⟩
def fileOf (pool : Array CpInfo) (this : Nat) (attrs : Array Attribute := #[]) (ms : Array MethodInfo := #[]) (fl : Nat := 33) (sup : Nat := 0) (ifs : Array Nat := #[]) (fds : Array FieldInfo := #[]) : ClassFile where
  minorVersion := 0
  majorVersion := 65
  constantPool := pool
  accessFlags := fl
  thisClass := this
  superClass := sup
  interfaces := ifs
  fields := fds
  methods := ms
  attributes := attrs
def plain (name : String) (sup : Option ClassId) : Class where
  name := name
  kind := .ordinary
  loader := none
  accessFlags := 33
  super := sup
  interfaces := #[]
  cf := none
  fields := #[]
  methods := #[]
  instanceTypes := #[]
  staticTypes := #[]
  resolved := #[]
  callSites := []
  init := .initialized
  statics := none
  mirror := none

def pool0 : Array CpInfo := pool [(5, u "<init>"), (0, u "()V"), (1, .class_ 10), (1, u "java/lang/Object")] 113

def k0c0 : Code := { maxStack := 0, maxLocals := 1, code := object_method_1_code, exceptionTable := #[], attributes := #[] }
def k0m0 : Method := { name := "<init>", desc := "()V", sig := { parameters := [], returnType := none }, accessFlags := 1, code := some k0c0 }
/-- java/lang/Object -/
def k0 : Class := { plain "java/lang/Object" none with
  accessFlags := 33
  interfaces := #[]
  cf := some (fileOf pool0 8 #[] #[{ accessFlags := 1, nameIndex := 5, descriptorIndex := 6, attributes := #[] }] 33 0 #[] #[])
  fields := #[]
  methods := #[k0m0]
  instanceTypes := #[]
  staticTypes := #[]
  resolved := Array.replicate 124 none
  statics := none }

def pool1 : Array CpInfo := pool [(2, .class_ 4), (1, u "java/lang/Object"), (0, u "<init>"), (0, u "()V"), (0, .class_ 8), (0, u "com/example/relinduct/relinduct/cfa/IntegerType"), (0, .methodref 7 10), (0, .nameAndType 5 11), (0, u "(IZ)V"), (0, .methodref 7 13), (0, .nameAndType 14 15), (0, u "common"), (0, u "(Lcom/example/relinduct/relinduct/cfa/IntegerType;)Lcom/example/relinduct/relinduct/cfa/IntegerType;"), (0, .methodref 17 18), (0, .class_ 19), (0, .nameAndType 20 21), (0, u "java/lang/Math"), (0, u "max"), (0, u "(II)I"), (0, .methodref 7 23), (0, .nameAndType 24 25), (0, u "bits"), (0, u "()I"), (0, .methodref 7 27), (0, .nameAndType 28 29), (0, u "signed"), (0, u "()Z"), (0, .class_ 31), (0, u "com/example/relinduct/relinduct/cfa/IntegerTypeCommonPinLaw"), (2, u "law"), (0, u "(III)Z")] 3

def k1m0 : Method := { name := "<init>", desc := "()V", sig := { parameters := [], returnType := none }, accessFlags := 1, code := none }
def k1c1 : Code := { maxStack := 4, maxLocals := 10, code := code, exceptionTable := #[], attributes := #[] }
def k1m1 : Method := { name := "law", desc := "(III)Z", sig := { parameters := [.int, .int, .int], returnType := some .boolean }, accessFlags := 9, code := some k1c1 }
/-- com/example/relinduct/relinduct/cfa/IntegerTypeCommonPinLaw -/
def k1 : Class := { plain "com/example/relinduct/relinduct/cfa/IntegerTypeCommonPinLaw" (some 0) with
  accessFlags := 49
  interfaces := #[]
  cf := some (fileOf pool1 30 #[] #[{ accessFlags := 1, nameIndex := 5, descriptorIndex := 6, attributes := #[] }, { accessFlags := 9, nameIndex := 34, descriptorIndex := 35, attributes := #[] }] 49 2 #[] #[])
  fields := #[]
  methods := #[k1m0, k1m1]
  instanceTypes := #[]
  staticTypes := #[]
  resolved := Array.replicate 39 none
  statics := none }

def pool2 : Array CpInfo := pool [(1, .methodref 2 3), (0, .class_ 4), (0, .nameAndType 5 6), (0, u "java/lang/Object"), (0, u "<init>"), (0, u "()V"), (0, .class_ 8), (0, u "java/lang/Record")] 13

def k2c0 : Code := { maxStack := 1, maxLocals := 1, code := jdk_30_method_1_code, exceptionTable := #[], attributes := #[] }
def k2m0 : Method := { name := "<init>", desc := "()V", sig := { parameters := [], returnType := none }, accessFlags := 4, code := some k2c0 }
/-- java/lang/Record -/
def k2 : Class := { plain "java/lang/Record" (some 0) with
  accessFlags := 1057
  interfaces := #[]
  cf := some (fileOf pool2 7 #[] #[{ accessFlags := 4, nameIndex := 5, descriptorIndex := 6, attributes := #[] }] 1057 2 #[] #[])
  fields := #[]
  methods := #[k2m0]
  instanceTypes := #[]
  staticTypes := #[]
  resolved := Array.replicate 22 none
  statics := none }

def pool3 : Array CpInfo := pool [(1, .methodref 2 3), (0, .class_ 4), (0, .nameAndType 5 6), (0, u "java/lang/Record"), (0, u "<init>"), (0, u "()V"), (0, .fieldref 8 9), (0, .class_ 10), (0, .nameAndType 11 12), (0, u "com/example/relinduct/relinduct/cfa/IntegerType"), (0, u "bits"), (0, u "I"), (0, .fieldref 8 14), (0, .nameAndType 15 16), (0, u "signed"), (0, u "Z"), (87, u "(IZ)V"), (2, u "INT"), (0, u "Lcom/example/relinduct/relinduct/cfa/IntegerType;"), (2, u "UNSIGNED_INT"), (2, u "UNSIGNED_LONG_LONG"), (3, u "common"), (0, u "(Lcom/example/relinduct/relinduct/cfa/IntegerType;)Lcom/example/relinduct/relinduct/cfa/IntegerType;"), (4, u "()Z"), (3, u "()I")] 41

def k3c0 : Code := { maxStack := 2, maxLocals := 3, code := prog_34_method_1_code, exceptionTable := #[], attributes := #[] }
def k3m0 : Method := { name := "<init>", desc := "(IZ)V", sig := { parameters := [.int, .boolean], returnType := none }, accessFlags := 1, code := some k3c0 }
def k3c1 : Code := { maxStack := 2, maxLocals := 5, code := prog_34_method_2_code, exceptionTable := #[], attributes := #[] }
def k3m1 : Method := { name := "common", desc := "(Lcom/example/relinduct/relinduct/cfa/IntegerType;)Lcom/example/relinduct/relinduct/cfa/IntegerType;", sig := { parameters := [(.object "com/example/relinduct/relinduct/cfa/IntegerType")], returnType := some (.object "com/example/relinduct/relinduct/cfa/IntegerType") }, accessFlags := 1, code := some k3c1 }
def k3c2 : Code := { maxStack := 1, maxLocals := 1, code := prog_34_method_10_code, exceptionTable := #[], attributes := #[] }
def k3m2 : Method := { name := "bits", desc := "()I", sig := { parameters := [], returnType := some .int }, accessFlags := 1, code := some k3c2 }
def k3c3 : Code := { maxStack := 1, maxLocals := 1, code := prog_34_method_11_code, exceptionTable := #[], attributes := #[] }
def k3m3 : Method := { name := "signed", desc := "()Z", sig := { parameters := [], returnType := some .boolean }, accessFlags := 1, code := some k3c3 }
/-- com/example/relinduct/relinduct/cfa/IntegerType -/
def k3 : Class := { plain "com/example/relinduct/relinduct/cfa/IntegerType" (some 2) with
  accessFlags := 49
  interfaces := #[]
  cf := some (fileOf pool3 8 #[] #[{ accessFlags := 1, nameIndex := 5, descriptorIndex := 104, attributes := #[] }, { accessFlags := 1, nameIndex := 118, descriptorIndex := 119, attributes := #[] }, { accessFlags := 1, nameIndex := 11, descriptorIndex := 128, attributes := #[] }, { accessFlags := 1, nameIndex := 15, descriptorIndex := 124, attributes := #[] }] 49 2 #[] #[{ accessFlags := 18, nameIndex := 11, descriptorIndex := 12, attributes := #[] }, { accessFlags := 18, nameIndex := 15, descriptorIndex := 16, attributes := #[] }, { accessFlags := 25, nameIndex := 107, descriptorIndex := 108, attributes := #[] }, { accessFlags := 25, nameIndex := 111, descriptorIndex := 108, attributes := #[] }, { accessFlags := 25, nameIndex := 114, descriptorIndex := 108, attributes := #[] }])
  fields := #[{ name := "bits", type := .int, accessFlags := 18, slot := 0, constantValue := 0 }, { name := "signed", type := .boolean, accessFlags := 18, slot := 1, constantValue := 0 }, { name := "INT", type := (.object "com/example/relinduct/relinduct/cfa/IntegerType"), accessFlags := 25, slot := 0, constantValue := 0 }, { name := "UNSIGNED_INT", type := (.object "com/example/relinduct/relinduct/cfa/IntegerType"), accessFlags := 25, slot := 1, constantValue := 0 }, { name := "UNSIGNED_LONG_LONG", type := (.object "com/example/relinduct/relinduct/cfa/IntegerType"), accessFlags := 25, slot := 2, constantValue := 0 }]
  methods := #[k3m0, k3m1, k3m2, k3m3]
  instanceTypes := #[.int, .boolean]
  staticTypes := #[(.object "com/example/relinduct/relinduct/cfa/IntegerType"), (.object "com/example/relinduct/relinduct/cfa/IntegerType"), (.object "com/example/relinduct/relinduct/cfa/IntegerType")]
  resolved := Array.replicate 170 none
  statics := none }

def pool4 : Array CpInfo := pool [(1, .class_ 2), (0, u "java/lang/Math"), (1, .class_ 6), (1, u "java/lang/Object"), (0, u "<init>"), (0, u "()V"), (89, .class_ 100), (1, u "java/lang/Math$RandomNumberGeneratorHolder"), (71, u "negativeZeroFloatBits"), (0, u "J"), (2, u "negativeZeroDoubleBits"), (21, u "max"), (46, u "$assertionsDisabled"), (0, u "Z"), (88, u "(II)I"), (2, u "twoToTheDoubleScaleDown"), (0, u "D"), (4, u "twoToTheDoubleScaleUp"), (9, u "E"), (3, u "PI"), (2, u "TAU"), (2, u "DEGREES_TO_RADIANS"), (0, u "RADIANS_TO_DEGREES")] 94

def k4m0 : Method := { name := "<init>", desc := "()V", sig := { parameters := [], returnType := none }, accessFlags := 2, code := none }
def k4c1 : Code := { maxStack := 2, maxLocals := 2, code := jdk_29_method_65_code, exceptionTable := #[], attributes := #[] }
def k4m1 : Method := { name := "max", desc := "(II)I", sig := { parameters := [.int, .int], returnType := some .int }, accessFlags := 9, code := some k4c1 }
/-- java/lang/Math -/
def k4 : Class := { plain "java/lang/Math" (some 0) with
  accessFlags := 49
  interfaces := #[]
  cf := some (fileOf pool4 1 #[.nestMembers #[98]] #[{ accessFlags := 2, nameIndex := 7, descriptorIndex := 8, attributes := #[] }, { accessFlags := 9, nameIndex := 198, descriptorIndex := 335, attributes := #[] }] 49 4 #[] #[{ accessFlags := 25, nameIndex := 354, descriptorIndex := 339, attributes := #[] }, { accessFlags := 25, nameIndex := 358, descriptorIndex := 339, attributes := #[] }, { accessFlags := 25, nameIndex := 361, descriptorIndex := 339, attributes := #[] }, { accessFlags := 26, nameIndex := 364, descriptorIndex := 339, attributes := #[] }, { accessFlags := 26, nameIndex := 365, descriptorIndex := 339, attributes := #[] }, { accessFlags := 26, nameIndex := 172, descriptorIndex := 173, attributes := #[] }, { accessFlags := 26, nameIndex := 176, descriptorIndex := 173, attributes := #[] }, { accessFlags := 8, nameIndex := 344, descriptorIndex := 339, attributes := #[] }, { accessFlags := 8, nameIndex := 338, descriptorIndex := 339, attributes := #[] }, { accessFlags := 4120, nameIndex := 245, descriptorIndex := 246, attributes := #[] }])
  fields := #[{ name := "E", type := .double, accessFlags := 25, slot := 0, constantValue := 0 }, { name := "PI", type := .double, accessFlags := 25, slot := 1, constantValue := 0 }, { name := "TAU", type := .double, accessFlags := 25, slot := 2, constantValue := 0 }, { name := "DEGREES_TO_RADIANS", type := .double, accessFlags := 26, slot := 3, constantValue := 0 }, { name := "RADIANS_TO_DEGREES", type := .double, accessFlags := 26, slot := 4, constantValue := 0 }, { name := "negativeZeroFloatBits", type := .long, accessFlags := 26, slot := 5, constantValue := 0 }, { name := "negativeZeroDoubleBits", type := .long, accessFlags := 26, slot := 6, constantValue := 0 }, { name := "twoToTheDoubleScaleUp", type := .double, accessFlags := 8, slot := 7, constantValue := 0 }, { name := "twoToTheDoubleScaleDown", type := .double, accessFlags := 8, slot := 8, constantValue := 0 }, { name := "$assertionsDisabled", type := .boolean, accessFlags := 4120, slot := 9, constantValue := 0 }]
  methods := #[k4m0, k4m1]
  instanceTypes := #[]
  staticTypes := #[.double, .double, .double, .double, .double, .long, .long, .double, .double, .boolean]
  resolved := Array.replicate 460 none
  statics := none }

def pool5 : Array CpInfo := pool [(1, u "java/lang/Cloneable"), (0, .class_ 1), (0, u "java/lang/Object"), (0, .class_ 3)] 3

/-- java/lang/Cloneable -/
def k5 : Class := { plain "java/lang/Cloneable" (some 0) with
  accessFlags := 1537
  interfaces := #[]
  cf := some (fileOf pool5 2 #[] #[] 1537 4 #[] #[])
  fields := #[]
  methods := #[]
  instanceTypes := #[]
  staticTypes := #[]
  resolved := Array.replicate 8 none
  statics := none }

def pool6 : Array CpInfo := pool [(1, u "java/io/Serializable"), (0, .class_ 1), (0, u "java/lang/Object"), (0, .class_ 3)] 3

/-- java/io/Serializable -/
def k6 : Class := { plain "java/io/Serializable" (some 0) with
  accessFlags := 1537
  interfaces := #[]
  cf := some (fileOf pool6 2 #[] #[] 1537 4 #[] #[])
  fields := #[]
  methods := #[]
  instanceTypes := #[]
  staticTypes := #[]
  resolved := Array.replicate 8 none
  statics := none }

/-- the primitive byte -/
def k7 : Class := { plain "byte" none with kind := .primitive 'B', accessFlags := 0x411 }
/-- [B -/
def k8 : Class := { plain "[B" (some 0) with kind := .array 7 .byte, interfaces := #[5, 6], accessFlags := 1041 }

/-- the primitive int -/
def k9 : Class := { plain "int" none with kind := .primitive 'I', accessFlags := 0x411 }
/-- [I -/
def k10 : Class := { plain "[I" (some 0) with kind := .array 9 .int, interfaces := #[5, 6], accessFlags := 1041 }

def heap : Heap := #[]
def classes : Array Class := #[k0, k1, k2, k3, k4, k5, k6, k7, k8, k9, k10]
def interned : List (Array UInt16 × Addr) := []
def slotsUsed : Nat := 0
def theMethod : MethodId := ⟨1, 1⟩
def args0 : Array Value := #[.int 5, .int 3, .int 1]
def aboutOver (below : List Frame) : State where
  vm := { classes := classes, interned := interned.toArray }
  heap := heap
  slotsUsed := slotsUsed
  threads := #[{ frames := .invoking theMethod args0 :: below }]
def below0 : List Frame := [.native { method := ⟨0, 0⟩, args := #[] }]
def about1 : State := aboutOver below0
def p0 : Program := .bare "" "" ""
def e0 : Env := launch0.env 0 0 0
theorem w_frames : about1.frames = Frame.invoking theMethod args0 :: below0 := rfl
set_option maxRecDepth 65536 in
theorem w_args : argsFit about1.vm theMethod args0 = true := by decide +kernel
set_option maxRecDepth 65536 in
theorem w_heap : heapFits about1 = true := by decide +kernel
set_option maxRecDepth 65536 in
theorem w_runnable : about1.curStatus? = some .runnable := by decide +kernel
set_option maxRecDepth 65536 in
theorem w_alone : about1.alone = true := by decide +kernel
set_option maxRecDepth 65536 in
theorem w_named : about1.methodNamed? x = some theMethod := by decide +kernel
set_option maxRecDepth 65536 in
theorem w_hears : about1.hears theMethod below0 = true := by decide +kernel
set_option maxRecDepth 65536 in
theorem w_ripe : about1.ripe theMethod args0 below0 = true := by decide +kernel
theorem w_running : about1.status = .running := rfl
set_option maxRecDepth 65536 in
theorem w_room : about1.hasRoom e0.platform room_1 = true :=
  launch0.hasRoom_least _ room_1 (by decide +kernel) (by decide +kernel) (by decide +kernel) (by decide +kernel) (by decide +kernel) (by decide +kernel)
theorem allAtoms_all (ts : List Jvm.Cond) (a : Array Jvm.Value) (st : Jvm.State) : (allAtoms ts).before a st = ts.all (fun c => c.before a st) := by
  induction ts with
  | nil => rfl
  | cons c t ih =>
    show (Jvm.Cond.and c (allAtoms t)).before a st = _
    rw [Jvm.Cond.before_and, ih, List.all_cons]
def words1 : List Jvm.Cond := Jvm.Cond.code x code maxLocals ret :: tables_1
/-- a 'code' word, met by the world's own term for the bytes: nothing is compared byte by byte -/
theorem code_word {y : MethodName} {bytes : ByteArray} {mx : Nat} {rt : Option FieldType} {a : Array Value} {s : State} {m : MethodId} {meth : Method} {c : Code} (h1 : s.methodNamed? y = some m) (h2 : s.vm.method? m = some meth) (h3 : meth.code = some c) (h4 : c.code = bytes)
    (h5 : (c.maxLocals == mx && c.exceptionTable.isEmpty && decide (c.maxStack ≤ mostOperands) && decide (meth.sig.returnType = rt) && !meth.locks && decide (parseMethodDescriptor y.desc = some meth.sig)) = true) : (Jvm.Cond.code y bytes mx rt).before a s = true := by
  simp only [Bool.and_eq_true, beq_iff_eq, Bool.not_eq_true', decide_eq_true_eq] at h5
  obtain ⟨⟨⟨⟨⟨g1, g2⟩, g3⟩, g4⟩, g5⟩, g6⟩ := h5
  simp [Cond.before, Cond.holds, Cond.value, h1, h2, h3, h4, g1, g2, g3, g4, g5, g6]
def isCode : Jvm.Cond → Bool
  | .code _ _ _ _ => true
  | _ => false
theorem all_split {L : List Jvm.Cond} {P : Jvm.Cond → Bool} (h1 : L.all (fun c => isCode c || P c) = true) (h2 : ∀ c ∈ L.filter isCode, P c = true) : L.all P = true := by
  refine List.all_eq_true.mpr fun c hc => ?_
  have h := List.all_eq_true.mp h1 c hc
  rcases Bool.eq_false_or_eq_true (isCode c) with hi | hi
  · exact h2 c (List.mem_filter.mpr ⟨hc, hi⟩)
  · simpa [hi] using h
set_option maxRecDepth 65536 in
theorem w_c0 : (Jvm.Cond.code x code maxLocals ret).before args0 about1 = true := code_word (m := ⟨1, 1⟩) (meth := k1m1) (c := k1c1) (by decide +kernel) rfl rfl rfl (by decide +kernel)
set_option maxRecDepth 65536 in
theorem w_c1 : (Jvm.Cond.code ({ cls := "com/example/relinduct/relinduct/cfa/IntegerType", name := "<init>", desc := "(IZ)V" } : Jvm.MethodName) prog_34_method_1_code (3 : Nat) (Option.none : Option Jvm.ClassFile.FieldType)).before args0 about1 = true := code_word (m := ⟨3, 0⟩) (meth := k3m0) (c := k3c0) (by decide +kernel) rfl rfl rfl (by decide +kernel)
set_option maxRecDepth 65536 in
theorem w_c2 : (Jvm.Cond.code ({ cls := "java/lang/Record", name := "<init>", desc := "()V" } : Jvm.MethodName) jdk_30_method_1_code (1 : Nat) (Option.none : Option Jvm.ClassFile.FieldType)).before args0 about1 = true := code_word (m := ⟨2, 0⟩) (meth := k2m0) (c := k2c0) (by decide +kernel) rfl rfl rfl (by decide +kernel)
set_option maxRecDepth 65536 in
theorem w_c3 : (Jvm.Cond.code ({ cls := "java/lang/Object", name := "<init>", desc := "()V" } : Jvm.MethodName) object_method_1_code (1 : Nat) (Option.none : Option Jvm.ClassFile.FieldType)).before args0 about1 = true := code_word (m := ⟨0, 0⟩) (meth := k0m0) (c := k0c0) (by decide +kernel) rfl rfl rfl (by decide +kernel)
set_option maxRecDepth 65536 in
theorem w_c4 : (Jvm.Cond.code ({ cls := "com/example/relinduct/relinduct/cfa/IntegerType", name := "common", desc := "(Lcom/example/relinduct/relinduct/cfa/IntegerType;)Lcom/example/relinduct/relinduct/cfa/IntegerType;" } : Jvm.MethodName) prog_34_method_2_code (5 : Nat) (Option.some (Jvm.ClassFile.FieldType.object "com/example/relinduct/relinduct/cfa/IntegerType"))).before args0 about1 = true := code_word (m := ⟨3, 1⟩) (meth := k3m1) (c := k3c1) (by decide +kernel) rfl rfl rfl (by decide +kernel)
set_option maxRecDepth 65536 in
theorem w_c5 : (Jvm.Cond.code ({ cls := "java/lang/Math", name := "max", desc := "(II)I" } : Jvm.MethodName) jdk_29_method_65_code (2 : Nat) (Option.some Jvm.ClassFile.FieldType.int)).before args0 about1 = true := code_word (m := ⟨4, 1⟩) (meth := k4m1) (c := k4c1) (by decide +kernel) rfl rfl rfl (by decide +kernel)
set_option maxRecDepth 65536 in
theorem w_c6 : (Jvm.Cond.code ({ cls := "com/example/relinduct/relinduct/cfa/IntegerType", name := "bits", desc := "()I" } : Jvm.MethodName) prog_34_method_10_code (1 : Nat) (Option.some Jvm.ClassFile.FieldType.int)).before args0 about1 = true := code_word (m := ⟨3, 2⟩) (meth := k3m2) (c := k3c2) (by decide +kernel) rfl rfl rfl (by decide +kernel)
set_option maxRecDepth 65536 in
theorem w_c7 : (Jvm.Cond.code ({ cls := "com/example/relinduct/relinduct/cfa/IntegerType", name := "signed", desc := "()Z" } : Jvm.MethodName) prog_34_method_11_code (1 : Nat) (Option.some Jvm.ClassFile.FieldType.boolean)).before args0 about1 = true := code_word (m := ⟨3, 3⟩) (meth := k3m3) (c := k3c3) (by decide +kernel) rfl rfl rfl (by decide +kernel)
def codes1 : List Jvm.Cond := [Jvm.Cond.code x code maxLocals ret, Jvm.Cond.code ({ cls := "com/example/relinduct/relinduct/cfa/IntegerType", name := "<init>", desc := "(IZ)V" } : Jvm.MethodName) prog_34_method_1_code (3 : Nat) (Option.none : Option Jvm.ClassFile.FieldType), Jvm.Cond.code ({ cls := "java/lang/Record", name := "<init>", desc := "()V" } : Jvm.MethodName) jdk_30_method_1_code (1 : Nat) (Option.none : Option Jvm.ClassFile.FieldType), Jvm.Cond.code ({ cls := "java/lang/Object", name := "<init>", desc := "()V" } : Jvm.MethodName) object_method_1_code (1 : Nat) (Option.none : Option Jvm.ClassFile.FieldType), Jvm.Cond.code ({ cls := "com/example/relinduct/relinduct/cfa/IntegerType", name := "common", desc := "(Lcom/example/relinduct/relinduct/cfa/IntegerType;)Lcom/example/relinduct/relinduct/cfa/IntegerType;" } : Jvm.MethodName) prog_34_method_2_code (5 : Nat) (Option.some (Jvm.ClassFile.FieldType.object "com/example/relinduct/relinduct/cfa/IntegerType")), Jvm.Cond.code ({ cls := "java/lang/Math", name := "max", desc := "(II)I" } : Jvm.MethodName) jdk_29_method_65_code (2 : Nat) (Option.some Jvm.ClassFile.FieldType.int), Jvm.Cond.code ({ cls := "com/example/relinduct/relinduct/cfa/IntegerType", name := "bits", desc := "()I" } : Jvm.MethodName) prog_34_method_10_code (1 : Nat) (Option.some Jvm.ClassFile.FieldType.int), Jvm.Cond.code ({ cls := "com/example/relinduct/relinduct/cfa/IntegerType", name := "signed", desc := "()Z" } : Jvm.MethodName) prog_34_method_11_code (1 : Nat) (Option.some Jvm.ClassFile.FieldType.boolean)]
set_option maxRecDepth 65536 in
theorem codes_eq : words1.filter isCode = codes1 := rfl
theorem w_codes : ∀ c ∈ words1.filter isCode, c.before args0 about1 = true := by
  rw [codes_eq]
  intro c hc
  simp only [codes1, List.mem_cons, List.not_mem_nil, or_false] at hc
  rcases hc with rfl | rfl | rfl | rfl | rfl | rfl | rfl | rfl
  · exact w_c0
  · exact w_c1
  · exact w_c2
  · exact w_c3
  · exact w_c4
  · exact w_c5
  · exact w_c6
  · exact w_c7
set_option maxRecDepth 65536 in
theorem w_t1 : (words1.take 24).all (fun c => isCode c || c.before args0 about1) = true := by decide +kernel
set_option maxRecDepth 65536 in
theorem w_t2 : (words1.drop 24).all (fun c => isCode c || c.before args0 about1) = true := by decide +kernel
theorem w_tables : (allAtoms (Jvm.Cond.code x code maxLocals ret :: tables_1)).before args0 about1 = true := by
  rw [allAtoms_all]
  show words1.all (fun c => c.before args0 about1) = true
  refine all_split ?_ w_codes
  rw [← List.take_append_drop 24 words1, List.all_append, w_t1, w_t2]
  rfl
set_option maxRecDepth 65536 in
theorem w_case : (Jvm.Cond.and given_1 narrow_1).before args0 about1 = true := by decide +kernel
theorem w_applies : (headSpec (Jvm.Cond.code x code maxLocals ret :: tables_1) room_1).applies x e0.platform about1 = true :=
  (Spec.applies_iff w_frames).mpr ⟨w_running, w_runnable, w_alone, w_named, w_hears, w_ripe, w_room, w_tables⟩
theorem atStart : AtStart classFile x code maxLocals ret World_1 tables_1 room_1 Calls_1 rest_1 Pre_1 launch0 p0 e0 about1 theMethod args0 below0 :=
  ⟨lists_1, trivial, launch0.admits_env _ _ _, launch0.least_env, fairChoices_fair.cas, fairChoices_fair.clock, w_frames, w_args, w_heap, w_applies, trivial, trivial, w_case⟩
end start1
theorem witness_1 : WitnessClaimed_1 := ⟨start1.p0, start1.e0, start1.about1, start1.theMethod, start1.args0, start1.below0, start1.atStart⟩
end Jvm.Pilot.@@N@@
