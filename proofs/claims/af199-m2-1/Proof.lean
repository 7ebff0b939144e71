import JvmDerived
import JvmDerived.Pilot.@@N@@Statement
import JvmDerived.Pilot.@@N@@Code
set_option linter.unusedVariables false
set_option linter.unusedSimpArgs false
namespace Jvm.Pilot.@@N@@
open Jvm Jvm.ClassFile Sem Op Lib Jvm.Free Jvm.Stand Jvm.LawKit Jvm.RoadKit Bundle Jvm.Pilot.@@N@@.Jvm.D
theorem own_lt32 {a b : Int32} : a < b ↔ a.toInt < b.toInt := Int32.lt_iff_toInt_lt
theorem own_eq32 {a b : Int32} : a = b ↔ a.toInt = b.toInt := Int32.toInt_inj.symm
theorem own_lt64 {a b : Int64} : a < b ↔ a.toInt < b.toInt := Int64.lt_iff_toInt_lt
theorem own_eq64 {a b : Int64} : a = b ↔ a.toInt = b.toInt := Int64.toInt_inj.symm
theorem own_rng (p : Int32) : ∃ i : Fin 63, ((p &&& (63 : Int32)) % (63 : Int32)) = Int32.ofNat i.1 := by
  have h1 := Jvm.RoadKit.c_mask p (63 : Int32) 6 (by decide) (by decide)
  have e : (63 : Int32).toInt = 63 := rfl
  have h2 := (Jvm.RoadKit.c_iremV (p &&& (63 : Int32)) (63 : Int32)).1 (by omega) (by decide)
  refine ⟨⟨((p &&& (63 : Int32)) % (63 : Int32)).toInt.toNat, by omega⟩, ?_⟩
  rw [own_eq32]
  show _ = (Int32.ofNat (((p &&& (63 : Int32)) % (63 : Int32)).toInt.toNat)).toInt
  rw [Int32.toInt_ofNat_of_lt (by omega)]
  omega
theorem own_T1 : ∀ i : Fin 63, ((1 : Int64) <<< (((Int32.ofNat i.1 + (1 : Int32)) - (1 : Int32)) &&& 0x3f).toInt64).toInt = ((2 ^ i.1 : Nat) : Int) := by decide +kernel
theorem own_T2 : ∀ i : Fin 63, (((1 : Int64) <<< ((Int32.ofNat i.1 + (1 : Int32)) &&& 0x3f).toInt64) - (1 : Int64)).toInt = 2 * ((2 ^ i.1 : Nat) : Int) - 1 := by decide +kernel
theorem own_T3 : ∀ i : Fin 63, (((1 : Int64) <<< (((Int32.ofNat i.1 + (1 : Int32)) - (1 : Int32)) &&& 0x3f).toInt64) - (1 : Int64)).toInt = ((2 ^ i.1 : Nat) : Int) - 1 := by decide +kernel
theorem own_T4 : ∀ i : Fin 63, (-((1 : Int64) <<< (((Int32.ofNat i.1 + (1 : Int32)) - (1 : Int32)) &&& 0x3f).toInt64)).toInt = -((2 ^ i.1 : Nat) : Int) := by decide +kernel
theorem own_T5 : ∀ i j : Fin 63, ((Int32.ofNat i.1 + (1 : Int32)) < (Int32.ofNat j.1 + (1 : Int32))) ↔ i.1 < j.1 := by decide +kernel
theorem own_pw {a b : Nat} (h : a < b) : 2 * 2 ^ a ≤ 2 ^ b := by
  have : 2 ^ (a + 1) ≤ 2 ^ b := Nat.pow_le_pow_right (by decide) h
  rw [Nat.pow_succ] at this; omega
theorem d2_0 : decode jdk_30_method_1_code 0 = .ok (.aload_n 0, 1) := by decide +kernel
theorem d2_1 : decode jdk_30_method_1_code 1 = .ok (.invokespecial 1, 3) := by decide +kernel
def Q_rm2 (Z : State) (o0 : Addr) (h0 : Heap) (n0 : Nat) (v : Option Value) (h : Heap) (L : List Loc) : Prop := v = none ∧ Fr n0 L ∧ h = h0
theorem pn_2 : plainName "java/lang/Record" = true := by first | (simp [plainName, overriddenIn]; done) | decide +kernel
theorem ef_2 (m : MethodId) (x0 : Addr) : entryFrame m #[(.ref x0)] 1 = mkF m 0 #[.val (.ref x0)] [] := by first | (simp [entryFrame, mkF, argsToLocals, Value.category]; done) | rfl
theorem d2_4 : decode jdk_30_method_1_code 4 = .ok (.return_, 1) := by decide +kernel
set_option maxRecDepth 65536 in
set_option maxHeartbeats 40000000 in
theorem rm2 (l : Launch) (Z : State) (a0 : Array Value) (hw : ∀ d ∈ tables_1, d.before a0 Z = true) (ws : List Jvm.Cond) (o0 : Addr) (h0 : Heap) (n0 : Nat) (Z0 : n0 ≤ h0.size) :
    MetFree l (⟨"java/lang/Record", "<init>", "()V"⟩ : MethodName) (head1 (Jvm.Cond.code (⟨"java/lang/Record", "<init>", "()V"⟩ : MethodName) jdk_30_method_1_code 1 none :: ws) ({ frames := 1, cells := 0, slots := 0, locals := 12 } : Room)) (fun a U => a = #[(.ref o0)] ∧ Z.Warmed39 U.vm ∧ U.heap = h0) (fun _ _ _ _ _ => True) (fun _ U o U' => ∃ v L, o = .returned v ∧ Q_rm2 Z o0 h0 n0 v U'.heap L ∧ FrameEnd U o U' L ({ frames := 1, cells := 0, slots := 0, locals := 12 } : Room).cells ({ frames := 1, cells := 0, slots := 0, locals := 12 } : Room).slots) := by
  refine MetFree.of_bodySF (plainFor_of_name pn_2) hisR ?_
  intro p e s m args below meth c s₁ Bd hml0 hP hK
  obtain ⟨rfl, hZ, hh⟩ := hP
  have hx := Bd.exec
  have hby := Bd.bytes
  have hml : c.maxLocals = 1 := hml0
  have hown : s.vm.findClass "java/lang/Record" = some m.cls := findClass_of_methodNamed Bd.named
  have hnm := (name_of_methodNamed Bd.named Bd.method).1
  have X0 : Stand p l e ({ frames := 1, cells := 0, slots := 0, locals := 12 } : Room) s m #[(.ref o0)] below meth c s₁ [] 0 0 := Stand.of_body Bd
  have e0 : s₁.heap = h0 := by rw [← hh, Bd.state]; rfl
  have N0 := Fr.nil n0
  have Kp0 : Keep h0 h0 [] := Keep.refl _ _
  have K0 : Steps p.tables e below (s₁.setTop (entryFrame m #[(.ref o0)] 1)) (s₁.setTop (mkF m 0 #[.val (.ref o0)] [])) := castTop (ef_2 m o0) (Steps.refl _)
  have K1 : Steps p.tables e below _ (s₁.setTop (mkF m 1 #[.val (.ref o0)] [(.ref o0)])) := K0.trans (by
    show Steps p.tables e below (s₁.setTop (mkF m 0 #[.val (.ref o0)] [])) _
    refine XS.aloadN X0.here hx rfl (hb hby d2_0) rfl rfl ?_
    show Steps p.tables e below (s₁.setTop (mkF m 1 #[.val (.ref o0)] [(.ref o0)])) _
    exact Steps.refl _)
  obtain ⟨T2, X2, e2, st2⟩ := initO X0 hx hZ hown (hw _ (List.mem_of_getElem? (i := 11) rfl)) (hw _ (List.mem_of_getElem? (i := 12) rfl)) (hw _ (List.mem_of_getElem? (i := 13) rfl)) e0 (g := (mkF m 1 #[.val (.ref o0)] [(.ref o0)])) rfl (by rw [hml]; rfl) rfl (hb hby d2_1) (by decide) (W := 0) (by show 2 * 0 + _ ≤ _; exact Nat.le_of_eq rfl) (by decide)
  have K3 : Steps p.tables e below _ (T2.setTop (mkF m 4 #[.val (.ref o0)] [])) := K1.trans (st2 _ (Steps.refl _))
  obtain ⟨fs, hr, hrun, hended, hW, hsame⟩ := X2.leave (v := none) (fun _ => rfl)
  refine ⟨_, _, K3.trans (X2.returnOut hx Bd.returns (hb hby d2_4) hr), hrun, hended, _, _, rfl, ?_, ⟨_, rfl⟩, hW, hsame.mono (by decide) (by first | decide | omega)⟩
  show Q_rm2 Z o0 h0 n0 _ T2.heap _
  rw [e2]
  exact ⟨rfl, N0, rfl⟩
theorem d1_0 : decode prog_34_method_1_code 0 = .ok (.aload_n 0, 1) := by decide +kernel
theorem pd_0 : parseMethodDescriptor "()V" = some ⟨[], none⟩ := by decide +kernel
theorem d1_1 : decode prog_34_method_1_code 1 = .ok (.invokespecial 1, 3) := by decide +kernel
theorem d1_4 : decode prog_34_method_1_code 4 = .ok (.aload_n 0, 1) := by decide +kernel
theorem d1_5 : decode prog_34_method_1_code 5 = .ok (.iload_n 1, 1) := by decide +kernel
theorem d1_6 : decode prog_34_method_1_code 6 = .ok (.putfield 7, 3) := by decide +kernel
theorem d1_9 : decode prog_34_method_1_code 9 = .ok (.aload_n 0, 1) := by decide +kernel
theorem d1_10 : decode prog_34_method_1_code 10 = .ok (.iload_n 2, 1) := by decide +kernel
theorem d1_11 : decode prog_34_method_1_code 11 = .ok (.putfield 13, 3) := by decide +kernel
def Q_rm1 (Z : State) (o0 : Addr) (p1 : Int32) (p2 : Int32) (u3_bits : Value) (u4_signed : Value) (h0 : Heap) (n0 : Nat) (v : Option Value) (h : Heap) (L : List Loc) : Prop := v = none ∧ Fr n0 L ∧ Keep h0 h [o0] ∧ Exa Z h o0 "com/example/relinduct/relinduct/cfa/IntegerType" ∧ Fld Z h o0 "com/example/relinduct/relinduct/cfa/IntegerType" "bits" "I" (.int p1) ∧ Fld Z h o0 "com/example/relinduct/relinduct/cfa/IntegerType" "signed" "Z" (.int (p2 &&& 1))
theorem pn_1 : plainName "com/example/relinduct/relinduct/cfa/IntegerType" = true := by first | (simp [plainName, overriddenIn]; done) | decide +kernel
theorem ef_1 (m : MethodId) (x0 : Addr) (x1 : Int32) (x2 : Int32) : entryFrame m #[(.ref x0), (.int x1), (.int x2)] 3 = mkF m 0 #[.val (.ref x0), .val (.int x1), .val (.int x2)] [] := by first | (simp [entryFrame, mkF, argsToLocals, Value.category]; done) | rfl
theorem d1_14 : decode prog_34_method_1_code 14 = .ok (.return_, 1) := by decide +kernel
set_option maxRecDepth 65536 in
set_option maxHeartbeats 40000000 in
theorem rm1 (l : Launch) (Z : State) (a0 : Array Value) (hw : ∀ d ∈ tables_1, d.before a0 Z = true) (ws : List Jvm.Cond) (o0 : Addr) (p1 : Int32) (p2 : Int32) (u3_bits : Value) (u4_signed : Value) (h0 : Heap) (n0 : Nat) (Z0 : n0 ≤ h0.size) (g_o0 : n0 ≤ o0) (E_o0 : Exa Z h0 o0 "com/example/relinduct/relinduct/cfa/IntegerType") (F_bits_o0 : Fld Z h0 o0 "com/example/relinduct/relinduct/cfa/IntegerType" "bits" "I" u3_bits) (F_signed_o0 : Fld Z h0 o0 "com/example/relinduct/relinduct/cfa/IntegerType" "signed" "Z" u4_signed) :
    MetFree l (⟨"com/example/relinduct/relinduct/cfa/IntegerType", "<init>", "(IZ)V"⟩ : MethodName) (head1 (Jvm.Cond.code (⟨"com/example/relinduct/relinduct/cfa/IntegerType", "<init>", "(IZ)V"⟩ : MethodName) prog_34_method_1_code 3 none :: ws) ({ frames := 2, cells := 0, slots := 0, locals := 24 } : Room)) (fun a U => a = #[(.ref o0), (.int p1), (.int p2)] ∧ Z.Warmed39 U.vm ∧ U.heap = h0) (fun _ _ _ _ _ => True) (fun _ U o U' => ∃ v L, o = .returned v ∧ Q_rm1 Z o0 p1 p2 u3_bits u4_signed h0 n0 v U'.heap L ∧ FrameEnd U o U' L ({ frames := 2, cells := 0, slots := 0, locals := 24 } : Room).cells ({ frames := 2, cells := 0, slots := 0, locals := 24 } : Room).slots) := by
  refine MetFree.of_bodySF (plainFor_of_name pn_1) hisR ?_
  intro p e s m args below meth c s₁ Bd hml0 hP hK
  obtain ⟨rfl, hZ, hh⟩ := hP
  have hx := Bd.exec
  have hby := Bd.bytes
  have hml : c.maxLocals = 3 := hml0
  have hown : s.vm.findClass "com/example/relinduct/relinduct/cfa/IntegerType" = some m.cls := findClass_of_methodNamed Bd.named
  have hnm := (name_of_methodNamed Bd.named Bd.method).1
  have X0 : Stand p l e ({ frames := 2, cells := 0, slots := 0, locals := 24 } : Room) s m #[(.ref o0), (.int p1), (.int p2)] below meth c s₁ [] 0 0 := Stand.of_body Bd
  have e0 : s₁.heap = h0 := by rw [← hh, Bd.state]; rfl
  have N0 := Fr.nil n0
  have Kp0 : Keep h0 h0 [o0] := Keep.refl _ _
  have K0 : Steps p.tables e below (s₁.setTop (entryFrame m #[(.ref o0), (.int p1), (.int p2)] 3)) (s₁.setTop (mkF m 0 #[.val (.ref o0), .val (.int p1), .val (.int p2)] [])) := castTop (ef_1 m o0 p1 p2) (Steps.refl _)
  have K1 : Steps p.tables e below _ (s₁.setTop (mkF m 1 #[.val (.ref o0), .val (.int p1), .val (.int p2)] [(.ref o0)])) := K0.trans (by
    show Steps p.tables e below (s₁.setTop (mkF m 0 #[.val (.ref o0), .val (.int p1), .val (.int p2)] [])) _
    refine XS.aloadN X0.here hx rfl (hb hby d1_0) rfl rfl ?_
    show Steps p.tables e below (s₁.setTop (mkF m 1 #[.val (.ref o0), .val (.int p1), .val (.int p2)] [(.ref o0)])) _
    exact Steps.refl _)
  obtain ⟨_, _, ⟨T2, L2, k2, n2⟩, -, X2, ⟨Lc2, hQ2, l2, y2, z2⟩, st2⟩ := X0.specialBack hx (y := (⟨"java/lang/Record", "<init>", "()V"⟩ : MethodName)) rfl hown (mvT hZ (hw _ (List.mem_of_getElem? (i := 6) rfl))) (mvT hZ (hw _ (List.mem_of_getElem? (i := 7) rfl))) (mvT hZ (hw _ (List.mem_of_getElem? (i := 10) rfl))) (by decide) (backOf (W := 0) (rm2 l Z a0 hw [] o0 h0 n0 Z0 ) hZ (hw _ (List.mem_of_getElem? (i := 10) rfl)) (hw _ (List.mem_of_getElem? (i := 9) rfl)) (by decide) (by decide)) (g := (mkF m 1 #[.val (.ref o0), .val (.int p1), .val (.int p2)] [(.ref o0)])) rfl (by rw [hml]; rfl) K1 (a := o0) (argsL := []) (rest := []) (lenOf pd_0 rfl) rfl (by show 2 * 0 + _ ≤ _; exact Nat.le_of_eq rfl) (hb hby d1_1) (fun _ _ => ⟨rfl, e0, (by decide : 0 + 0 ≤ _), (by decide : 0 + 0 ≤ _)⟩)
  dsimp only [Pt.U, Pt.locs, Pt.cells, Pt.slots] at X2 l2 y2 z2 st2 hQ2
  subst l2 y2 z2
  obtain ⟨rfl, N2, eh2⟩ := hQ2
  have N2' := Fr.app N0 N2
  have K3 : Steps p.tables e below _ (T2.setTop (mkF m 4 #[.val (.ref o0), .val (.int p1), .val (.int p2)] [])) := st2
  have K4 : Steps p.tables e below _ (T2.setTop (mkF m 6 #[.val (.ref o0), .val (.int p1), .val (.int p2)] [(.int p1), (.ref o0)])) := K3.trans (by
    show Steps p.tables e below (T2.setTop (mkF m 4 #[.val (.ref o0), .val (.int p1), .val (.int p2)] [])) _
    refine XS.aloadN X2.here hx rfl (hb hby d1_4) rfl rfl ?_
    show Steps p.tables e below (T2.setTop (mkF m 5 #[.val (.ref o0), .val (.int p1), .val (.int p2)] [(.ref o0)])) _
    refine XS.iloadN X2.here hx rfl (hb hby d1_5) rfl ?_
    show Steps p.tables e below (T2.setTop (mkF m 6 #[.val (.ref o0), .val (.int p1), .val (.int p2)] [(.int p1), (.ref o0)])) _
    exact Steps.refl _)
  obtain ⟨T5, h5, X5, e5, W5, st5⟩ := putF X2 hx hZ hown (host := "") (Or.inl (hw _ (List.mem_of_getElem? (i := 14) rfl))) Via.refl eh2 F_bits_o0 E_o0 (Or.inr ⟨(hw _ (List.mem_of_getElem? (i := 15) rfl)), rfl, hnm⟩) (hw _ (List.mem_of_getElem? (i := 1) rfl)) (ty := .int) (by decide) rfl rfl (g := (mkF m 6 #[.val (.ref o0), .val (.int p1), .val (.int p2)] [(.int p1), (.ref o0)])) rfl rfl (hb hby d1_6)
  have K6 : Steps p.tables e below _ (T5.setTop (mkF m 9 #[.val (.ref o0), .val (.int p1), .val (.int p2)] [])) := K4.trans (st5 _ (Steps.refl _))
  have Fw5 : Fld Z h5 o0 "com/example/relinduct/relinduct/cfa/IntegerType" "bits" "I" (.int p1) := F_bits_o0.same W5
  have N5 := Fr.snoc X5 N2' g_o0
  have K7 : Steps p.tables e below _ (T5.setTop (mkF m 11 #[.val (.ref o0), .val (.int p1), .val (.int p2)] [(.int p2), (.ref o0)])) := K6.trans (by
    show Steps p.tables e below (T5.setTop (mkF m 9 #[.val (.ref o0), .val (.int p1), .val (.int p2)] [])) _
    refine XS.aloadN X5.here hx rfl (hb hby d1_9) rfl rfl ?_
    show Steps p.tables e below (T5.setTop (mkF m 10 #[.val (.ref o0), .val (.int p1), .val (.int p2)] [(.ref o0)])) _
    refine XS.iloadN X5.here hx rfl (hb hby d1_10) rfl ?_
    show Steps p.tables e below (T5.setTop (mkF m 11 #[.val (.ref o0), .val (.int p1), .val (.int p2)] [(.int p2), (.ref o0)])) _
    exact Steps.refl _)
  have E_8 : Exa Z h5 o0 "com/example/relinduct/relinduct/cfa/IntegerType" := (E_o0.wr W5)
  have F_9 : Fld Z h5 o0 "com/example/relinduct/relinduct/cfa/IntegerType" "signed" "Z" u4_signed := (F_signed_o0.other W5 (Or.inr (slot_ne (Or.inr (hw _ (List.mem_of_getElem? (i := 17) rfl))) (Or.inr (hw _ (List.mem_of_getElem? (i := 15) rfl))) (by decide) (t := .boolean) (t' := .int) (by decide) (by decide))))
  obtain ⟨T10, h10, X10, e10, W10, st10⟩ := putFN X5 hx hZ hown (hw _ (List.mem_of_getElem? (i := 16) rfl)) Via.refl e5 F_9 E_8 (Or.inr ⟨(hw _ (List.mem_of_getElem? (i := 17) rfl)), rfl, hnm⟩) (hw _ (List.mem_of_getElem? (i := 1) rfl)) (ty := .boolean) (v' := (.int (p2 &&& 1))) (by decide) rfl (fits_nar_bool _) (g := (mkF m 11 #[.val (.ref o0), .val (.int p1), .val (.int p2)] [(.int p2), (.ref o0)])) rfl rfl (hb hby d1_11)
  have K11 : Steps p.tables e below _ (T10.setTop (mkF m 14 #[.val (.ref o0), .val (.int p1), .val (.int p2)] [])) := K7.trans (st10 _ (Steps.refl _))
  have Fw10 : Fld Z h10 o0 "com/example/relinduct/relinduct/cfa/IntegerType" "signed" "Z" (.int (p2 &&& 1)) := F_9.same W10
  have N10 := Fr.snoc X10 N5 g_o0
  obtain ⟨fs, hr, hrun, hended, hW, hsame⟩ := X10.leave (v := none) (fun _ => rfl)
  have K_12 : Keep h0 h10 [o0] := ((Kp0.wr W5 (Or.inl (List.mem_of_getElem? (i := 0) rfl))).wr W10 (Or.inl (List.mem_of_getElem? (i := 0) rfl)))
  have E_13 : Exa Z h10 o0 "com/example/relinduct/relinduct/cfa/IntegerType" := (E_8.wr W10)
  have F_14 : Fld Z h10 o0 "com/example/relinduct/relinduct/cfa/IntegerType" "bits" "I" (.int p1) := (Fw5.other W10 (Or.inr (slot_ne (Or.inr (hw _ (List.mem_of_getElem? (i := 15) rfl))) (Or.inr (hw _ (List.mem_of_getElem? (i := 17) rfl))) (by decide) (t := .int) (t' := .boolean) (by decide) (by decide))))
  refine ⟨_, _, K11.trans (X10.returnOut hx Bd.returns (hb hby d1_14) hr), hrun, hended, _, _, rfl, ?_, ⟨_, rfl⟩, hW, hsame.mono (by decide) (by first | decide | omega)⟩
  show Q_rm1 Z o0 p1 p2 u3_bits u4_signed h0 n0 _ T10.heap _
  rw [e10]
  exact ⟨rfl, N10, K_12, E_13, F_14, Fw10⟩
theorem d4_0 : decode method_2_code 0 = .ok (.iload_n 1, 1) := by decide +kernel
theorem d4_1 : decode method_2_code 1 = .ok (.ifCond .eq 12, 3) := by decide +kernel
theorem d4_13 : decode method_2_code 13 = .ok (.lconst 0, 1) := by decide +kernel
theorem d4_4 : decode method_2_code 4 = .ok (.lconst 1, 1) := by decide +kernel
theorem d4_5 : decode method_2_code 5 = .ok (.iload_n 0, 1) := by decide +kernel
theorem d4_6 : decode method_2_code 6 = .ok (.iconst 1, 1) := by decide +kernel
theorem d4_7 : decode method_2_code 7 = .ok (.isub, 1) := by decide +kernel
theorem d4_8 : decode method_2_code 8 = .ok (.lshl, 1) := by decide +kernel
theorem d4_9 : decode method_2_code 9 = .ok (.lneg, 1) := by decide +kernel
theorem d4_10 : decode method_2_code 10 = .ok (.goto 4, 3) := by decide +kernel
def Q_rm4 (Z : State) (p0 : Int32) (p1 : Int32) (h0 : Heap) (n0 : Nat) (v : Option Value) (h : Heap) (L : List Loc) : Prop := v = some (.long (if p1 = (0 : Int32) then (0 : Int64) else (-((1 : Int64) <<< ((p0 - (1 : Int32)) &&& 0x3f).toInt64)))) ∧ Fr n0 L ∧ h = h0
theorem pn_4 : plainName "com/example/relinduct/relinduct/cfa/IntegerTypeHoldsPinLaw" = true := by first | (simp [plainName, overriddenIn]; done) | decide +kernel
theorem ef_4 (m : MethodId) (x0 : Int32) (x1 : Int32) : entryFrame m #[(.int x0), (.int x1)] 2 = mkF m 0 #[.val (.int x0), .val (.int x1)] [] := by first | (simp [entryFrame, mkF, argsToLocals, Value.category]; done) | rfl
theorem d4_14 : decode method_2_code 14 = .ok (.lreturn, 1) := by decide +kernel
set_option maxRecDepth 65536 in
set_option maxHeartbeats 40000000 in
theorem rm4 (l : Launch) (Z : State) (a0 : Array Value) (hw : ∀ d ∈ tables_1, d.before a0 Z = true) (ws : List Jvm.Cond) (p0 : Int32) (p1 : Int32) (h0 : Heap) (n0 : Nat) (Z0 : n0 ≤ h0.size) :
    MetFree l (⟨"com/example/relinduct/relinduct/cfa/IntegerTypeHoldsPinLaw", "lo", "(IZ)J"⟩ : MethodName) (head1 (Jvm.Cond.code (⟨"com/example/relinduct/relinduct/cfa/IntegerTypeHoldsPinLaw", "lo", "(IZ)J"⟩ : MethodName) method_2_code 2 (some .long) :: ws) ({ frames := 0, cells := 0, slots := 0, locals := 0 } : Room)) (fun a U => a = #[(.int p0), (.int p1)] ∧ Z.Warmed39 U.vm ∧ U.heap = h0) (fun _ _ _ _ _ => True) (fun _ U o U' => ∃ v L, o = .returned v ∧ Q_rm4 Z p0 p1 h0 n0 v U'.heap L ∧ FrameEnd U o U' L ({ frames := 0, cells := 0, slots := 0, locals := 0 } : Room).cells ({ frames := 0, cells := 0, slots := 0, locals := 0 } : Room).slots) := by
  refine MetFree.of_bodySF (plainFor_of_name pn_4) hisR ?_
  intro p e s m args below meth c s₁ Bd hml0 hP hK
  obtain ⟨rfl, hZ, hh⟩ := hP
  have hx := Bd.exec
  have hby := Bd.bytes
  have hml : c.maxLocals = 2 := hml0
  have hown : s.vm.findClass "com/example/relinduct/relinduct/cfa/IntegerTypeHoldsPinLaw" = some m.cls := findClass_of_methodNamed Bd.named
  have hnm := (name_of_methodNamed Bd.named Bd.method).1
  have X0 : Stand p l e ({ frames := 0, cells := 0, slots := 0, locals := 0 } : Room) s m #[(.int p0), (.int p1)] below meth c s₁ [] 0 0 := Stand.of_body Bd
  have e0 : s₁.heap = h0 := by rw [← hh, Bd.state]; rfl
  have N0 := Fr.nil n0
  have Kp0 : Keep h0 h0 [] := Keep.refl _ _
  have K0 : Steps p.tables e below (s₁.setTop (entryFrame m #[(.int p0), (.int p1)] 2)) (s₁.setTop (mkF m 0 #[.val (.int p0), .val (.int p1)] [])) := castTop (ef_4 m p0 p1) (Steps.refl _)
  have K1 : Steps p.tables e below _ (s₁.setTop (mkF m 1 #[.val (.int p0), .val (.int p1)] [(.int p1)])) := K0.trans (by
    show Steps p.tables e below (s₁.setTop (mkF m 0 #[.val (.int p0), .val (.int p1)] [])) _
    refine XS.iloadN X0.here hx rfl (hb hby d4_0) rfl ?_
    show Steps p.tables e below (s₁.setTop (mkF m 1 #[.val (.int p0), .val (.int p1)] [(.int p1)])) _
    exact Steps.refl _)
  obtain ⟨v2_0, hv2_0, S2⟩ : ∃ (v2_0 : Int64), (if p1 = (0 : Int32) then (0 : Int64) else (-((1 : Int64) <<< ((p0 - (1 : Int32)) &&& 0x3f).toInt64))) = v2_0 ∧ Steps p.tables e below (s₁.setTop (mkF m 1 #[.val (.int p0), .val (.int p1)] [(.int p1)])) (s₁.setTop (mkF m 14 #[.val (.int p0), .val (.int p1)] [(.long v2_0)])) := by
    have R2 : Steps p.tables e below (s₁.setTop (mkF m 1 #[.val (.int p0), .val (.int p1)] [(.int p1)])) (s₁.setTop (mkF m 1 #[.val (.int p0), .val (.int p1)] [(.int p1)])) := Steps.refl _
    by_cases hc1 : p1 = (0 : Int32)
    · have K3 : Steps p.tables e below _ (s₁.setTop (mkF m 14 #[.val (.int p0), .val (.int p1)] [(.long (0 : Int64))])) := R2.trans (by
        show Steps p.tables e below (s₁.setTop (mkF m 1 #[.val (.int p0), .val (.int p1)] [(.int p1)])) _
        refine XS.ifYes X0.here hx rfl (pc0 := 1) (pc' := 13) rfl (hb hby d4_1) rfl ((if0 _ _).trans (teq hc1).1) (by decide) (by decide) ?_
        show Steps p.tables e below (s₁.setTop (mkF m 13 #[.val (.int p0), .val (.int p1)] [])) _
        refine XS.lconst X0.here hx rfl (hb hby d4_13) ?_
        show Steps p.tables e below (s₁.setTop (mkF m 14 #[.val (.int p0), .val (.int p1)] [(.long (0 : Int64))])) _
        exact Steps.refl _)
      exact ⟨(0 : Int64), (by rw [if_pos hc1]), K3⟩
    · have K4 : Steps p.tables e below _ (s₁.setTop (mkF m 14 #[.val (.int p0), .val (.int p1)] [(.long (-((1 : Int64) <<< ((p0 - (1 : Int32)) &&& 0x3f).toInt64)))])) := R2.trans (by
        show Steps p.tables e below (s₁.setTop (mkF m 1 #[.val (.int p0), .val (.int p1)] [(.int p1)])) _
        refine XS.ifNo X0.here hx rfl (hb hby d4_1) rfl ((if0 _ _).trans (feq hc1).1) ?_
        show Steps p.tables e below (s₁.setTop (mkF m 4 #[.val (.int p0), .val (.int p1)] [])) _
        refine XS.lconst X0.here hx rfl (hb hby d4_4) ?_
        show Steps p.tables e below (s₁.setTop (mkF m 5 #[.val (.int p0), .val (.int p1)] [(.long (1 : Int64))])) _
        refine XS.iloadN X0.here hx rfl (hb hby d4_5) rfl ?_
        show Steps p.tables e below (s₁.setTop (mkF m 6 #[.val (.int p0), .val (.int p1)] [(.int p0), (.long (1 : Int64))])) _
        refine XS.iconst X0.here hx rfl (hb hby d4_6) ?_
        show Steps p.tables e below (s₁.setTop (mkF m 7 #[.val (.int p0), .val (.int p1)] [(.int (1 : Int32)), (.int p0), (.long (1 : Int64))])) _
        refine XS.isub X0.here hx rfl (hb hby d4_7) rfl ?_
        show Steps p.tables e below (s₁.setTop (mkF m 8 #[.val (.int p0), .val (.int p1)] [(.int (p0 - (1 : Int32))), (.long (1 : Int64))])) _
        refine XS.lshl X0.here hx rfl (hb hby d4_8) rfl ?_
        show Steps p.tables e below (s₁.setTop (mkF m 9 #[.val (.int p0), .val (.int p1)] [(.long ((1 : Int64) <<< ((p0 - (1 : Int32)) &&& 0x3f).toInt64))])) _
        refine XS.lneg X0.here hx rfl (hb hby d4_9) rfl ?_
        show Steps p.tables e below (s₁.setTop (mkF m 10 #[.val (.int p0), .val (.int p1)] [(.long (-((1 : Int64) <<< ((p0 - (1 : Int32)) &&& 0x3f).toInt64)))])) _
        refine XS.goto X0.here hx rfl (pc0 := 10) (pc' := 14) rfl (hb hby d4_10) (by decide) (by decide) ?_
        show Steps p.tables e below (s₁.setTop (mkF m 14 #[.val (.int p0), .val (.int p1)] [(.long (-((1 : Int64) <<< ((p0 - (1 : Int32)) &&& 0x3f).toInt64)))])) _
        exact Steps.refl _)
      exact ⟨(-((1 : Int64) <<< ((p0 - (1 : Int32)) &&& 0x3f).toInt64)), (by rw [if_neg hc1]), K4⟩
  have K5 := K1.trans S2
  subst hv2_0
  obtain ⟨fs, hr, hrun, hended, hW, hsame⟩ := X0.leave (v := some (.long (if p1 = (0 : Int32) then (0 : Int64) else (-((1 : Int64) <<< ((p0 - (1 : Int32)) &&& 0x3f).toInt64))))) (fun h => by rw [Bd.returns] at h; cases h)
  refine ⟨_, _, K5.trans (retOut X0 hx Bd.returns rfl (Or.inr (Or.inl ⟨rfl, rfl, _, rfl⟩)) (hb hby d4_14) hr), hrun, hended, _, _, rfl, ?_, ⟨_, rfl⟩, hW, hsame.mono (by decide) (by first | decide | omega)⟩
  show Q_rm4 Z p0 p1 h0 n0 _ s₁.heap _
  rw [e0]
  exact ⟨rfl, N0, rfl⟩
theorem d6_0 : decode method_3_code 0 = .ok (.iload_n 1, 1) := by decide +kernel
theorem d6_1 : decode method_3_code 1 = .ok (.ifCond .eq 13, 3) := by decide +kernel
theorem d6_14 : decode method_3_code 14 = .ok (.lconst 1, 1) := by decide +kernel
theorem d6_15 : decode method_3_code 15 = .ok (.iload_n 0, 1) := by decide +kernel
theorem d6_16 : decode method_3_code 16 = .ok (.lshl, 1) := by decide +kernel
theorem d6_17 : decode method_3_code 17 = .ok (.lconst 1, 1) := by decide +kernel
theorem d6_18 : decode method_3_code 18 = .ok (.lsub, 1) := by decide +kernel
theorem d6_4 : decode method_3_code 4 = .ok (.lconst 1, 1) := by decide +kernel
theorem d6_5 : decode method_3_code 5 = .ok (.iload_n 0, 1) := by decide +kernel
theorem d6_6 : decode method_3_code 6 = .ok (.iconst 1, 1) := by decide +kernel
theorem d6_7 : decode method_3_code 7 = .ok (.isub, 1) := by decide +kernel
theorem d6_8 : decode method_3_code 8 = .ok (.lshl, 1) := by decide +kernel
theorem d6_9 : decode method_3_code 9 = .ok (.lconst 1, 1) := by decide +kernel
theorem d6_10 : decode method_3_code 10 = .ok (.lsub, 1) := by decide +kernel
theorem d6_11 : decode method_3_code 11 = .ok (.goto 8, 3) := by decide +kernel
def Q_rm6 (Z : State) (p0 : Int32) (p1 : Int32) (h0 : Heap) (n0 : Nat) (v : Option Value) (h : Heap) (L : List Loc) : Prop := v = some (.long (if p1 = (0 : Int32) then (((1 : Int64) <<< (p0 &&& 0x3f).toInt64) - (1 : Int64)) else (((1 : Int64) <<< ((p0 - (1 : Int32)) &&& 0x3f).toInt64) - (1 : Int64)))) ∧ Fr n0 L ∧ h = h0
theorem pn_6 : plainName "com/example/relinduct/relinduct/cfa/IntegerTypeHoldsPinLaw" = true := by first | (simp [plainName, overriddenIn]; done) | decide +kernel
theorem ef_6 (m : MethodId) (x0 : Int32) (x1 : Int32) : entryFrame m #[(.int x0), (.int x1)] 2 = mkF m 0 #[.val (.int x0), .val (.int x1)] [] := by first | (simp [entryFrame, mkF, argsToLocals, Value.category]; done) | rfl
theorem d6_19 : decode method_3_code 19 = .ok (.lreturn, 1) := by decide +kernel
set_option maxRecDepth 65536 in
set_option maxHeartbeats 40000000 in
theorem rm6 (l : Launch) (Z : State) (a0 : Array Value) (hw : ∀ d ∈ tables_1, d.before a0 Z = true) (ws : List Jvm.Cond) (p0 : Int32) (p1 : Int32) (h0 : Heap) (n0 : Nat) (Z0 : n0 ≤ h0.size) :
    MetFree l (⟨"com/example/relinduct/relinduct/cfa/IntegerTypeHoldsPinLaw", "hi", "(IZ)J"⟩ : MethodName) (head1 (Jvm.Cond.code (⟨"com/example/relinduct/relinduct/cfa/IntegerTypeHoldsPinLaw", "hi", "(IZ)J"⟩ : MethodName) method_3_code 2 (some .long) :: ws) ({ frames := 0, cells := 0, slots := 0, locals := 0 } : Room)) (fun a U => a = #[(.int p0), (.int p1)] ∧ Z.Warmed39 U.vm ∧ U.heap = h0) (fun _ _ _ _ _ => True) (fun _ U o U' => ∃ v L, o = .returned v ∧ Q_rm6 Z p0 p1 h0 n0 v U'.heap L ∧ FrameEnd U o U' L ({ frames := 0, cells := 0, slots := 0, locals := 0 } : Room).cells ({ frames := 0, cells := 0, slots := 0, locals := 0 } : Room).slots) := by
  refine MetFree.of_bodySF (plainFor_of_name pn_6) hisR ?_
  intro p e s m args below meth c s₁ Bd hml0 hP hK
  obtain ⟨rfl, hZ, hh⟩ := hP
  have hx := Bd.exec
  have hby := Bd.bytes
  have hml : c.maxLocals = 2 := hml0
  have hown : s.vm.findClass "com/example/relinduct/relinduct/cfa/IntegerTypeHoldsPinLaw" = some m.cls := findClass_of_methodNamed Bd.named
  have hnm := (name_of_methodNamed Bd.named Bd.method).1
  have X0 : Stand p l e ({ frames := 0, cells := 0, slots := 0, locals := 0 } : Room) s m #[(.int p0), (.int p1)] below meth c s₁ [] 0 0 := Stand.of_body Bd
  have e0 : s₁.heap = h0 := by rw [← hh, Bd.state]; rfl
  have N0 := Fr.nil n0
  have Kp0 : Keep h0 h0 [] := Keep.refl _ _
  have K0 : Steps p.tables e below (s₁.setTop (entryFrame m #[(.int p0), (.int p1)] 2)) (s₁.setTop (mkF m 0 #[.val (.int p0), .val (.int p1)] [])) := castTop (ef_6 m p0 p1) (Steps.refl _)
  have K1 : Steps p.tables e below _ (s₁.setTop (mkF m 1 #[.val (.int p0), .val (.int p1)] [(.int p1)])) := K0.trans (by
    show Steps p.tables e below (s₁.setTop (mkF m 0 #[.val (.int p0), .val (.int p1)] [])) _
    refine XS.iloadN X0.here hx rfl (hb hby d6_0) rfl ?_
    show Steps p.tables e below (s₁.setTop (mkF m 1 #[.val (.int p0), .val (.int p1)] [(.int p1)])) _
    exact Steps.refl _)
  obtain ⟨v2_0, hv2_0, S2⟩ : ∃ (v2_0 : Int64), (if p1 = (0 : Int32) then (((1 : Int64) <<< (p0 &&& 0x3f).toInt64) - (1 : Int64)) else (((1 : Int64) <<< ((p0 - (1 : Int32)) &&& 0x3f).toInt64) - (1 : Int64))) = v2_0 ∧ Steps p.tables e below (s₁.setTop (mkF m 1 #[.val (.int p0), .val (.int p1)] [(.int p1)])) (s₁.setTop (mkF m 19 #[.val (.int p0), .val (.int p1)] [(.long v2_0)])) := by
    have R2 : Steps p.tables e below (s₁.setTop (mkF m 1 #[.val (.int p0), .val (.int p1)] [(.int p1)])) (s₁.setTop (mkF m 1 #[.val (.int p0), .val (.int p1)] [(.int p1)])) := Steps.refl _
    by_cases hc1 : p1 = (0 : Int32)
    · have K3 : Steps p.tables e below _ (s₁.setTop (mkF m 19 #[.val (.int p0), .val (.int p1)] [(.long (((1 : Int64) <<< (p0 &&& 0x3f).toInt64) - (1 : Int64)))])) := R2.trans (by
        show Steps p.tables e below (s₁.setTop (mkF m 1 #[.val (.int p0), .val (.int p1)] [(.int p1)])) _
        refine XS.ifYes X0.here hx rfl (pc0 := 1) (pc' := 14) rfl (hb hby d6_1) rfl ((if0 _ _).trans (teq hc1).1) (by decide) (by decide) ?_
        show Steps p.tables e below (s₁.setTop (mkF m 14 #[.val (.int p0), .val (.int p1)] [])) _
        refine XS.lconst X0.here hx rfl (hb hby d6_14) ?_
        show Steps p.tables e below (s₁.setTop (mkF m 15 #[.val (.int p0), .val (.int p1)] [(.long (1 : Int64))])) _
        refine XS.iloadN X0.here hx rfl (hb hby d6_15) rfl ?_
        show Steps p.tables e below (s₁.setTop (mkF m 16 #[.val (.int p0), .val (.int p1)] [(.int p0), (.long (1 : Int64))])) _
        refine XS.lshl X0.here hx rfl (hb hby d6_16) rfl ?_
        show Steps p.tables e below (s₁.setTop (mkF m 17 #[.val (.int p0), .val (.int p1)] [(.long ((1 : Int64) <<< (p0 &&& 0x3f).toInt64))])) _
        refine XS.lconst X0.here hx rfl (hb hby d6_17) ?_
        show Steps p.tables e below (s₁.setTop (mkF m 18 #[.val (.int p0), .val (.int p1)] [(.long (1 : Int64)), (.long ((1 : Int64) <<< (p0 &&& 0x3f).toInt64))])) _
        refine XS.lsub X0.here hx rfl (hb hby d6_18) rfl ?_
        show Steps p.tables e below (s₁.setTop (mkF m 19 #[.val (.int p0), .val (.int p1)] [(.long (((1 : Int64) <<< (p0 &&& 0x3f).toInt64) - (1 : Int64)))])) _
        exact Steps.refl _)
      exact ⟨(((1 : Int64) <<< (p0 &&& 0x3f).toInt64) - (1 : Int64)), (by rw [if_pos hc1]), K3⟩
    · have K4 : Steps p.tables e below _ (s₁.setTop (mkF m 19 #[.val (.int p0), .val (.int p1)] [(.long (((1 : Int64) <<< ((p0 - (1 : Int32)) &&& 0x3f).toInt64) - (1 : Int64)))])) := R2.trans (by
        show Steps p.tables e below (s₁.setTop (mkF m 1 #[.val (.int p0), .val (.int p1)] [(.int p1)])) _
        refine XS.ifNo X0.here hx rfl (hb hby d6_1) rfl ((if0 _ _).trans (feq hc1).1) ?_
        show Steps p.tables e below (s₁.setTop (mkF m 4 #[.val (.int p0), .val (.int p1)] [])) _
        refine XS.lconst X0.here hx rfl (hb hby d6_4) ?_
        show Steps p.tables e below (s₁.setTop (mkF m 5 #[.val (.int p0), .val (.int p1)] [(.long (1 : Int64))])) _
        refine XS.iloadN X0.here hx rfl (hb hby d6_5) rfl ?_
        show Steps p.tables e below (s₁.setTop (mkF m 6 #[.val (.int p0), .val (.int p1)] [(.int p0), (.long (1 : Int64))])) _
        refine XS.iconst X0.here hx rfl (hb hby d6_6) ?_
        show Steps p.tables e below (s₁.setTop (mkF m 7 #[.val (.int p0), .val (.int p1)] [(.int (1 : Int32)), (.int p0), (.long (1 : Int64))])) _
        refine XS.isub X0.here hx rfl (hb hby d6_7) rfl ?_
        show Steps p.tables e below (s₁.setTop (mkF m 8 #[.val (.int p0), .val (.int p1)] [(.int (p0 - (1 : Int32))), (.long (1 : Int64))])) _
        refine XS.lshl X0.here hx rfl (hb hby d6_8) rfl ?_
        show Steps p.tables e below (s₁.setTop (mkF m 9 #[.val (.int p0), .val (.int p1)] [(.long ((1 : Int64) <<< ((p0 - (1 : Int32)) &&& 0x3f).toInt64))])) _
        refine XS.lconst X0.here hx rfl (hb hby d6_9) ?_
        show Steps p.tables e below (s₁.setTop (mkF m 10 #[.val (.int p0), .val (.int p1)] [(.long (1 : Int64)), (.long ((1 : Int64) <<< ((p0 - (1 : Int32)) &&& 0x3f).toInt64))])) _
        refine XS.lsub X0.here hx rfl (hb hby d6_10) rfl ?_
        show Steps p.tables e below (s₁.setTop (mkF m 11 #[.val (.int p0), .val (.int p1)] [(.long (((1 : Int64) <<< ((p0 - (1 : Int32)) &&& 0x3f).toInt64) - (1 : Int64)))])) _
        refine XS.goto X0.here hx rfl (pc0 := 11) (pc' := 19) rfl (hb hby d6_11) (by decide) (by decide) ?_
        show Steps p.tables e below (s₁.setTop (mkF m 19 #[.val (.int p0), .val (.int p1)] [(.long (((1 : Int64) <<< ((p0 - (1 : Int32)) &&& 0x3f).toInt64) - (1 : Int64)))])) _
        exact Steps.refl _)
      exact ⟨(((1 : Int64) <<< ((p0 - (1 : Int32)) &&& 0x3f).toInt64) - (1 : Int64)), (by rw [if_neg hc1]), K4⟩
  have K5 := K1.trans S2
  subst hv2_0
  obtain ⟨fs, hr, hrun, hended, hW, hsame⟩ := X0.leave (v := some (.long (if p1 = (0 : Int32) then (((1 : Int64) <<< (p0 &&& 0x3f).toInt64) - (1 : Int64)) else (((1 : Int64) <<< ((p0 - (1 : Int32)) &&& 0x3f).toInt64) - (1 : Int64))))) (fun h => by rw [Bd.returns] at h; cases h)
  refine ⟨_, _, K5.trans (retOut X0 hx Bd.returns rfl (Or.inr (Or.inl ⟨rfl, rfl, _, rfl⟩)) (hb hby d6_19) hr), hrun, hended, _, _, rfl, ?_, ⟨_, rfl⟩, hW, hsame.mono (by decide) (by first | decide | omega)⟩
  show Q_rm6 Z p0 p1 h0 n0 _ s₁.heap _
  rw [e0]
  exact ⟨rfl, N0, rfl⟩
theorem d5_0 : decode prog_34_method_3_code 0 = .ok (.aload_n 0, 1) := by decide +kernel
theorem d5_1 : decode prog_34_method_3_code 1 = .ok (.getfield 13, 3) := by decide +kernel
theorem d5_4 : decode prog_34_method_3_code 4 = .ok (.aload_n 1, 1) := by decide +kernel
theorem d5_5 : decode prog_34_method_3_code 5 = .ok (.getfield 13, 3) := by decide +kernel
theorem d5_8 : decode prog_34_method_3_code 8 = .ok (.if_icmp .ne 22, 3) := by decide +kernel
theorem d5_11 : decode prog_34_method_3_code 11 = .ok (.aload_n 0, 1) := by decide +kernel
theorem d5_12 : decode prog_34_method_3_code 12 = .ok (.getfield 7, 3) := by decide +kernel
theorem d5_15 : decode prog_34_method_3_code 15 = .ok (.aload_n 1, 1) := by decide +kernel
theorem d5_16 : decode prog_34_method_3_code 16 = .ok (.getfield 7, 3) := by decide +kernel
theorem d5_19 : decode prog_34_method_3_code 19 = .ok (.if_icmp .lt 7, 3) := by decide +kernel
theorem d5_26 : decode prog_34_method_3_code 26 = .ok (.iconst 0, 1) := by decide +kernel
theorem d5_27 : decode prog_34_method_3_code 27 = .ok (.goto 26, 3) := by decide +kernel
theorem d5_22 : decode prog_34_method_3_code 22 = .ok (.iconst 1, 1) := by decide +kernel
theorem d5_23 : decode prog_34_method_3_code 23 = .ok (.goto 30, 3) := by decide +kernel
theorem d5_30 : decode prog_34_method_3_code 30 = .ok (.aload_n 0, 1) := by decide +kernel
theorem d5_31 : decode prog_34_method_3_code 31 = .ok (.getfield 13, 3) := by decide +kernel
theorem d5_34 : decode prog_34_method_3_code 34 = .ok (.ifCond .eq 18, 3) := by decide +kernel
theorem d5_52 : decode prog_34_method_3_code 52 = .ok (.iconst 0, 1) := by decide +kernel
theorem d5_37 : decode prog_34_method_3_code 37 = .ok (.aload_n 0, 1) := by decide +kernel
theorem d5_38 : decode prog_34_method_3_code 38 = .ok (.getfield 7, 3) := by decide +kernel
theorem d5_41 : decode prog_34_method_3_code 41 = .ok (.aload_n 1, 1) := by decide +kernel
theorem d5_42 : decode prog_34_method_3_code 42 = .ok (.getfield 7, 3) := by decide +kernel
theorem d5_45 : decode prog_34_method_3_code 45 = .ok (.if_icmp .le 7, 3) := by decide +kernel
theorem d5_48 : decode prog_34_method_3_code 48 = .ok (.iconst 1, 1) := by decide +kernel
theorem d5_49 : decode prog_34_method_3_code 49 = .ok (.goto 4, 3) := by decide +kernel
def Q_rm5 (Z : State) (o0 : Addr) (o1 : Addr) (w2_signed : Int32) (w3_signed : Int32) (w4_bits : Int32) (w5_bits : Int32) (h0 : Heap) (n0 : Nat) (v : Option Value) (h : Heap) (L : List Loc) : Prop := v = some (.int ((if w2_signed = w3_signed then (if w4_bits < w5_bits then (0 : Int32) else (1 : Int32)) else (if w2_signed = (0 : Int32) then (0 : Int32) else (if w5_bits < w4_bits then (1 : Int32) else (0 : Int32)))) &&& 1)) ∧ Fr n0 L ∧ h = h0
theorem pn_5 : plainName "com/example/relinduct/relinduct/cfa/IntegerType" = true := by first | (simp [plainName, overriddenIn]; done) | decide +kernel
theorem ef_5 (m : MethodId) (x0 : Addr) (x1 : Addr) : entryFrame m #[(.ref x0), (.ref x1)] 2 = mkF m 0 #[.val (.ref x0), .val (.ref x1)] [] := by first | (simp [entryFrame, mkF, argsToLocals, Value.category]; done) | rfl
theorem d5_53 : decode prog_34_method_3_code 53 = .ok (.ireturn, 1) := by decide +kernel
set_option maxRecDepth 65536 in
set_option maxHeartbeats 40000000 in
theorem rm5 (l : Launch) (Z : State) (a0 : Array Value) (hw : ∀ d ∈ tables_1, d.before a0 Z = true) (ws : List Jvm.Cond) (o0 : Addr) (o1 : Addr) (w2_signed : Int32) (w3_signed : Int32) (w4_bits : Int32) (w5_bits : Int32) (h0 : Heap) (n0 : Nat) (Z0 : n0 ≤ h0.size) (F_signed_o0 : Fld Z h0 o0 "com/example/relinduct/relinduct/cfa/IntegerType" "signed" "Z" (.int w2_signed)) (F_signed_o1 : Fld Z h0 o1 "com/example/relinduct/relinduct/cfa/IntegerType" "signed" "Z" (.int w3_signed)) (F_bits_o0 : Fld Z h0 o0 "com/example/relinduct/relinduct/cfa/IntegerType" "bits" "I" (.int w4_bits)) (F_bits_o1 : Fld Z h0 o1 "com/example/relinduct/relinduct/cfa/IntegerType" "bits" "I" (.int w5_bits)) :
    MetFree l (⟨"com/example/relinduct/relinduct/cfa/IntegerType", "holds", "(Lcom/example/relinduct/relinduct/cfa/IntegerType;)Z"⟩ : MethodName) (head1 (Jvm.Cond.code (⟨"com/example/relinduct/relinduct/cfa/IntegerType", "holds", "(Lcom/example/relinduct/relinduct/cfa/IntegerType;)Z"⟩ : MethodName) prog_34_method_3_code 2 (some .boolean) :: ws) ({ frames := 0, cells := 0, slots := 0, locals := 0 } : Room)) (fun a U => a = #[(.ref o0), (.ref o1)] ∧ Z.Warmed39 U.vm ∧ U.heap = h0) (fun _ _ _ _ _ => True) (fun _ U o U' => ∃ v L, o = .returned v ∧ Q_rm5 Z o0 o1 w2_signed w3_signed w4_bits w5_bits h0 n0 v U'.heap L ∧ FrameEnd U o U' L ({ frames := 0, cells := 0, slots := 0, locals := 0 } : Room).cells ({ frames := 0, cells := 0, slots := 0, locals := 0 } : Room).slots) := by
  refine MetFree.of_bodySF (plainFor_of_name pn_5) hisR ?_
  intro p e s m args below meth c s₁ Bd hml0 hP hK
  obtain ⟨rfl, hZ, hh⟩ := hP
  have hx := Bd.exec
  have hby := Bd.bytes
  have hml : c.maxLocals = 2 := hml0
  have hown : s.vm.findClass "com/example/relinduct/relinduct/cfa/IntegerType" = some m.cls := findClass_of_methodNamed Bd.named
  have hnm := (name_of_methodNamed Bd.named Bd.method).1
  have X0 : Stand p l e ({ frames := 0, cells := 0, slots := 0, locals := 0 } : Room) s m #[(.ref o0), (.ref o1)] below meth c s₁ [] 0 0 := Stand.of_body Bd
  have e0 : s₁.heap = h0 := by rw [← hh, Bd.state]; rfl
  have N0 := Fr.nil n0
  have Kp0 : Keep h0 h0 [] := Keep.refl _ _
  have K0 : Steps p.tables e below (s₁.setTop (entryFrame m #[(.ref o0), (.ref o1)] 2)) (s₁.setTop (mkF m 0 #[.val (.ref o0), .val (.ref o1)] [])) := castTop (ef_5 m o0 o1) (Steps.refl _)
  have K1 : Steps p.tables e below _ (s₁.setTop (mkF m 1 #[.val (.ref o0), .val (.ref o1)] [(.ref o0)])) := K0.trans (by
    show Steps p.tables e below (s₁.setTop (mkF m 0 #[.val (.ref o0), .val (.ref o1)] [])) _
    refine XS.aloadN X0.here hx rfl (hb hby d5_0) rfl rfl ?_
    show Steps p.tables e below (s₁.setTop (mkF m 1 #[.val (.ref o0), .val (.ref o1)] [(.ref o0)])) _
    exact Steps.refl _)
  obtain ⟨T2, X2, e2, st2⟩ := getF X0 hx hZ hown (host := "") (Or.inl (hw _ (List.mem_of_getElem? (i := 16) rfl))) Via.refl e0 F_signed_o0 (g := (mkF m 1 #[.val (.ref o0), .val (.ref o1)] [(.ref o0)])) rfl rfl (hb hby d5_1)
  have K3 : Steps p.tables e below _ (T2.setTop (mkF m 4 #[.val (.ref o0), .val (.ref o1)] [(.int w2_signed)])) := K1.trans (st2 _ (Steps.refl _))
  have K4 : Steps p.tables e below _ (T2.setTop (mkF m 5 #[.val (.ref o0), .val (.ref o1)] [(.ref o1), (.int w2_signed)])) := K3.trans (by
    show Steps p.tables e below (T2.setTop (mkF m 4 #[.val (.ref o0), .val (.ref o1)] [(.int w2_signed)])) _
    refine XS.aloadN X2.here hx rfl (hb hby d5_4) rfl rfl ?_
    show Steps p.tables e below (T2.setTop (mkF m 5 #[.val (.ref o0), .val (.ref o1)] [(.ref o1), (.int w2_signed)])) _
    exact Steps.refl _)
  obtain ⟨T5, X5, e5, st5⟩ := getF X2 hx hZ hown (host := "") (Or.inl (hw _ (List.mem_of_getElem? (i := 16) rfl))) Via.refl e2 F_signed_o1 (g := (mkF m 5 #[.val (.ref o0), .val (.ref o1)] [(.ref o1), (.int w2_signed)])) rfl rfl (hb hby d5_5)
  have K6 : Steps p.tables e below _ (T5.setTop (mkF m 8 #[.val (.ref o0), .val (.ref o1)] [(.int w3_signed), (.int w2_signed)])) := K4.trans (st5 _ (Steps.refl _))
  obtain ⟨T7, L7, v7_0, X7, e7, N7, hv7_0, S7⟩ : ∃ (T7 : State) (L7 : List Loc) (v7_0 : Int32), Stand p l e ({ frames := 0, cells := 0, slots := 0, locals := 0 } : Room) s m #[(.ref o0), (.ref o1)] below meth c T7 L7 0 0 ∧ T7.heap = h0 ∧ Fr n0 L7 ∧ (if w2_signed = w3_signed then (if w4_bits < w5_bits then (0 : Int32) else (1 : Int32)) else (if w2_signed = (0 : Int32) then (0 : Int32) else (if w5_bits < w4_bits then (1 : Int32) else (0 : Int32)))) = v7_0 ∧ Steps p.tables e below (T5.setTop (mkF m 8 #[.val (.ref o0), .val (.ref o1)] [(.int w3_signed), (.int w2_signed)])) (T7.setTop (mkF m 53 #[.val (.ref o0), .val (.ref o1)] [(.int v7_0)])) := by
    have R7 : Steps p.tables e below (T5.setTop (mkF m 8 #[.val (.ref o0), .val (.ref o1)] [(.int w3_signed), (.int w2_signed)])) (T5.setTop (mkF m 8 #[.val (.ref o0), .val (.ref o1)] [(.int w3_signed), (.int w2_signed)])) := Steps.refl _
    by_cases hc8 : w2_signed = w3_signed
    · have K8 : Steps p.tables e below _ (T5.setTop (mkF m 12 #[.val (.ref o0), .val (.ref o1)] [(.ref o0)])) := R7.trans (by
        show Steps p.tables e below (T5.setTop (mkF m 8 #[.val (.ref o0), .val (.ref o1)] [(.int w3_signed), (.int w2_signed)])) _
        refine XS.icmpNo X5.here hx rfl (hb hby d5_8) rfl (teq hc8).2 ?_
        show Steps p.tables e below (T5.setTop (mkF m 11 #[.val (.ref o0), .val (.ref o1)] [])) _
        refine XS.aloadN X5.here hx rfl (hb hby d5_11) rfl rfl ?_
        show Steps p.tables e below (T5.setTop (mkF m 12 #[.val (.ref o0), .val (.ref o1)] [(.ref o0)])) _
        exact Steps.refl _)
      obtain ⟨T9, X9, e9, st9⟩ := getF X5 hx hZ hown (host := "") (Or.inl (hw _ (List.mem_of_getElem? (i := 14) rfl))) Via.refl e5 F_bits_o0 (g := (mkF m 12 #[.val (.ref o0), .val (.ref o1)] [(.ref o0)])) rfl rfl (hb hby d5_12)
      have K10 : Steps p.tables e below _ (T9.setTop (mkF m 15 #[.val (.ref o0), .val (.ref o1)] [(.int w4_bits)])) := K8.trans (st9 _ (Steps.refl _))
      have K11 : Steps p.tables e below _ (T9.setTop (mkF m 16 #[.val (.ref o0), .val (.ref o1)] [(.ref o1), (.int w4_bits)])) := K10.trans (by
        show Steps p.tables e below (T9.setTop (mkF m 15 #[.val (.ref o0), .val (.ref o1)] [(.int w4_bits)])) _
        refine XS.aloadN X9.here hx rfl (hb hby d5_15) rfl rfl ?_
        show Steps p.tables e below (T9.setTop (mkF m 16 #[.val (.ref o0), .val (.ref o1)] [(.ref o1), (.int w4_bits)])) _
        exact Steps.refl _)
      obtain ⟨T12, X12, e12, st12⟩ := getF X9 hx hZ hown (host := "") (Or.inl (hw _ (List.mem_of_getElem? (i := 14) rfl))) Via.refl e9 F_bits_o1 (g := (mkF m 16 #[.val (.ref o0), .val (.ref o1)] [(.ref o1), (.int w4_bits)])) rfl rfl (hb hby d5_16)
      have K13 : Steps p.tables e below _ (T12.setTop (mkF m 19 #[.val (.ref o0), .val (.ref o1)] [(.int w5_bits), (.int w4_bits)])) := K11.trans (st12 _ (Steps.refl _))
      by_cases hc19 : w4_bits < w5_bits
      · have K14 : Steps p.tables e below _ (T12.setTop (mkF m 53 #[.val (.ref o0), .val (.ref o1)] [(.int (0 : Int32))])) := K13.trans (by
          show Steps p.tables e below (T12.setTop (mkF m 19 #[.val (.ref o0), .val (.ref o1)] [(.int w5_bits), (.int w4_bits)])) _
          refine XS.icmpYes X12.here hx rfl (pc0 := 19) (pc' := 26) rfl (hb hby d5_19) rfl (tlt hc19).1 (by decide) (by decide) ?_
          show Steps p.tables e below (T12.setTop (mkF m 26 #[.val (.ref o0), .val (.ref o1)] [])) _
          refine XS.iconst X12.here hx rfl (hb hby d5_26) ?_
          show Steps p.tables e below (T12.setTop (mkF m 27 #[.val (.ref o0), .val (.ref o1)] [(.int (0 : Int32))])) _
          refine XS.goto X12.here hx rfl (pc0 := 27) (pc' := 53) rfl (hb hby d5_27) (by decide) (by decide) ?_
          show Steps p.tables e below (T12.setTop (mkF m 53 #[.val (.ref o0), .val (.ref o1)] [(.int (0 : Int32))])) _
          exact Steps.refl _)
        exact ⟨T12, _, (0 : Int32), X12, e12, N0, (by rw [if_pos hc8, if_pos hc19]), K14⟩
      · have K15 : Steps p.tables e below _ (T12.setTop (mkF m 53 #[.val (.ref o0), .val (.ref o1)] [(.int (1 : Int32))])) := K13.trans (by
          show Steps p.tables e below (T12.setTop (mkF m 19 #[.val (.ref o0), .val (.ref o1)] [(.int w5_bits), (.int w4_bits)])) _
          refine XS.icmpNo X12.here hx rfl (hb hby d5_19) rfl (flt hc19).1 ?_
          show Steps p.tables e below (T12.setTop (mkF m 22 #[.val (.ref o0), .val (.ref o1)] [])) _
          refine XS.iconst X12.here hx rfl (hb hby d5_22) ?_
          show Steps p.tables e below (T12.setTop (mkF m 23 #[.val (.ref o0), .val (.ref o1)] [(.int (1 : Int32))])) _
          refine XS.goto X12.here hx rfl (pc0 := 23) (pc' := 53) rfl (hb hby d5_23) (by decide) (by decide) ?_
          show Steps p.tables e below (T12.setTop (mkF m 53 #[.val (.ref o0), .val (.ref o1)] [(.int (1 : Int32))])) _
          exact Steps.refl _)
        exact ⟨T12, _, (1 : Int32), X12, e12, N0, (by rw [if_pos hc8, if_neg hc19]), K15⟩
    · have K16 : Steps p.tables e below _ (T5.setTop (mkF m 31 #[.val (.ref o0), .val (.ref o1)] [(.ref o0)])) := R7.trans (by
        show Steps p.tables e below (T5.setTop (mkF m 8 #[.val (.ref o0), .val (.ref o1)] [(.int w3_signed), (.int w2_signed)])) _
        refine XS.icmpYes X5.here hx rfl (pc0 := 8) (pc' := 30) rfl (hb hby d5_8) rfl (feq hc8).2 (by decide) (by decide) ?_
        show Steps p.tables e below (T5.setTop (mkF m 30 #[.val (.ref o0), .val (.ref o1)] [])) _
        refine XS.aloadN X5.here hx rfl (hb hby d5_30) rfl rfl ?_
        show Steps p.tables e below (T5.setTop (mkF m 31 #[.val (.ref o0), .val (.ref o1)] [(.ref o0)])) _
        exact Steps.refl _)
      obtain ⟨T17, X17, e17, st17⟩ := getF X5 hx hZ hown (host := "") (Or.inl (hw _ (List.mem_of_getElem? (i := 16) rfl))) Via.refl e5 F_signed_o0 (g := (mkF m 31 #[.val (.ref o0), .val (.ref o1)] [(.ref o0)])) rfl rfl (hb hby d5_31)
      have K18 : Steps p.tables e below _ (T17.setTop (mkF m 34 #[.val (.ref o0), .val (.ref o1)] [(.int w2_signed)])) := K16.trans (st17 _ (Steps.refl _))
      by_cases hc34 : w2_signed = (0 : Int32)
      · have K19 : Steps p.tables e below _ (T17.setTop (mkF m 53 #[.val (.ref o0), .val (.ref o1)] [(.int (0 : Int32))])) := K18.trans (by
          show Steps p.tables e below (T17.setTop (mkF m 34 #[.val (.ref o0), .val (.ref o1)] [(.int w2_signed)])) _
          refine XS.ifYes X17.here hx rfl (pc0 := 34) (pc' := 52) rfl (hb hby d5_34) rfl ((if0 _ _).trans (teq hc34).1) (by decide) (by decide) ?_
          show Steps p.tables e below (T17.setTop (mkF m 52 #[.val (.ref o0), .val (.ref o1)] [])) _
          refine XS.iconst X17.here hx rfl (hb hby d5_52) ?_
          show Steps p.tables e below (T17.setTop (mkF m 53 #[.val (.ref o0), .val (.ref o1)] [(.int (0 : Int32))])) _
          exact Steps.refl _)
        exact ⟨T17, _, (0 : Int32), X17, e17, N0, (by rw [if_neg hc8, if_pos hc34]), K19⟩
      · have K20 : Steps p.tables e below _ (T17.setTop (mkF m 38 #[.val (.ref o0), .val (.ref o1)] [(.ref o0)])) := K18.trans (by
          show Steps p.tables e below (T17.setTop (mkF m 34 #[.val (.ref o0), .val (.ref o1)] [(.int w2_signed)])) _
          refine XS.ifNo X17.here hx rfl (hb hby d5_34) rfl ((if0 _ _).trans (feq hc34).1) ?_
          show Steps p.tables e below (T17.setTop (mkF m 37 #[.val (.ref o0), .val (.ref o1)] [])) _
          refine XS.aloadN X17.here hx rfl (hb hby d5_37) rfl rfl ?_
          show Steps p.tables e below (T17.setTop (mkF m 38 #[.val (.ref o0), .val (.ref o1)] [(.ref o0)])) _
          exact Steps.refl _)
        obtain ⟨T21, X21, e21, st21⟩ := getF X17 hx hZ hown (host := "") (Or.inl (hw _ (List.mem_of_getElem? (i := 14) rfl))) Via.refl e17 F_bits_o0 (g := (mkF m 38 #[.val (.ref o0), .val (.ref o1)] [(.ref o0)])) rfl rfl (hb hby d5_38)
        have K22 : Steps p.tables e below _ (T21.setTop (mkF m 41 #[.val (.ref o0), .val (.ref o1)] [(.int w4_bits)])) := K20.trans (st21 _ (Steps.refl _))
        have K23 : Steps p.tables e below _ (T21.setTop (mkF m 42 #[.val (.ref o0), .val (.ref o1)] [(.ref o1), (.int w4_bits)])) := K22.trans (by
          show Steps p.tables e below (T21.setTop (mkF m 41 #[.val (.ref o0), .val (.ref o1)] [(.int w4_bits)])) _
          refine XS.aloadN X21.here hx rfl (hb hby d5_41) rfl rfl ?_
          show Steps p.tables e below (T21.setTop (mkF m 42 #[.val (.ref o0), .val (.ref o1)] [(.ref o1), (.int w4_bits)])) _
          exact Steps.refl _)
        obtain ⟨T24, X24, e24, st24⟩ := getF X21 hx hZ hown (host := "") (Or.inl (hw _ (List.mem_of_getElem? (i := 14) rfl))) Via.refl e21 F_bits_o1 (g := (mkF m 42 #[.val (.ref o0), .val (.ref o1)] [(.ref o1), (.int w4_bits)])) rfl rfl (hb hby d5_42)
        have K25 : Steps p.tables e below _ (T24.setTop (mkF m 45 #[.val (.ref o0), .val (.ref o1)] [(.int w5_bits), (.int w4_bits)])) := K23.trans (st24 _ (Steps.refl _))
        by_cases hc45 : w5_bits < w4_bits
        · have K26 : Steps p.tables e below _ (T24.setTop (mkF m 53 #[.val (.ref o0), .val (.ref o1)] [(.int (1 : Int32))])) := K25.trans (by
            show Steps p.tables e below (T24.setTop (mkF m 45 #[.val (.ref o0), .val (.ref o1)] [(.int w5_bits), (.int w4_bits)])) _
            refine XS.icmpNo X24.here hx rfl (hb hby d5_45) rfl (tlt hc45).2.2.2 ?_
            show Steps p.tables e below (T24.setTop (mkF m 48 #[.val (.ref o0), .val (.ref o1)] [])) _
            refine XS.iconst X24.here hx rfl (hb hby d5_48) ?_
            show Steps p.tables e below (T24.setTop (mkF m 49 #[.val (.ref o0), .val (.ref o1)] [(.int (1 : Int32))])) _
            refine XS.goto X24.here hx rfl (pc0 := 49) (pc' := 53) rfl (hb hby d5_49) (by decide) (by decide) ?_
            show Steps p.tables e below (T24.setTop (mkF m 53 #[.val (.ref o0), .val (.ref o1)] [(.int (1 : Int32))])) _
            exact Steps.refl _)
          exact ⟨T24, _, (1 : Int32), X24, e24, N0, (by rw [if_neg hc8, if_neg hc34, if_pos hc45]), K26⟩
        · have K27 : Steps p.tables e below _ (T24.setTop (mkF m 53 #[.val (.ref o0), .val (.ref o1)] [(.int (0 : Int32))])) := K25.trans (by
            show Steps p.tables e below (T24.setTop (mkF m 45 #[.val (.ref o0), .val (.ref o1)] [(.int w5_bits), (.int w4_bits)])) _
            refine XS.icmpYes X24.here hx rfl (pc0 := 45) (pc' := 52) rfl (hb hby d5_45) rfl (flt hc45).2.2.2 (by decide) (by decide) ?_
            show Steps p.tables e below (T24.setTop (mkF m 52 #[.val (.ref o0), .val (.ref o1)] [])) _
            refine XS.iconst X24.here hx rfl (hb hby d5_52) ?_
            show Steps p.tables e below (T24.setTop (mkF m 53 #[.val (.ref o0), .val (.ref o1)] [(.int (0 : Int32))])) _
            exact Steps.refl _)
          exact ⟨T24, _, (0 : Int32), X24, e24, N0, (by rw [if_neg hc8, if_neg hc34, if_neg hc45]), K27⟩
  have K28 := K6.trans S7
  subst hv7_0
  obtain ⟨fs, hr, hrun, hended, hW, hsame⟩ := X7.leave (v := some (.int ((if w2_signed = w3_signed then (if w4_bits < w5_bits then (0 : Int32) else (1 : Int32)) else (if w2_signed = (0 : Int32) then (0 : Int32) else (if w5_bits < w4_bits then (1 : Int32) else (0 : Int32)))) &&& 1))) (fun h => by rw [Bd.returns] at h; cases h)
  refine ⟨_, _, K28.trans (retN X7 hx (t := .boolean) Bd.returns (by simp) (hb hby d5_53) hr), hrun, hended, _, _, rfl, ?_, ⟨_, rfl⟩, hW, hsame.mono (by decide) (by first | decide | omega)⟩
  show Q_rm5 Z o0 o1 w2_signed w3_signed w4_bits w5_bits h0 n0 _ T7.heap _
  rw [e7]
  exact ⟨rfl, N7, rfl⟩
theorem pd_1 : parseMethodDescriptor "(IZ)V" = some ⟨[.int, .boolean], none⟩ := by decide +kernel
theorem pd_2 : parseMethodDescriptor "(IZ)J" = some ⟨[.int, .boolean], some .long⟩ := by decide +kernel
theorem pd_3 : parseMethodDescriptor "(Lcom/example/relinduct/relinduct/cfa/IntegerType;)Z" = some ⟨[(.object "com/example/relinduct/relinduct/cfa/IntegerType")], some .boolean⟩ := by decide +kernel
def Q_rm0 (n0 : Nat) (v : Option Value) (L : List Loc) : Prop := v = some (.int 1) ∧ Fr n0 L
theorem pn_0 : plainName "com/example/relinduct/relinduct/cfa/IntegerTypeHoldsPinLaw" = true := by first | (simp [plainName, overriddenIn]; done) | decide +kernel
theorem ef_0 (m : MethodId) (x0 : Int32) (x1 : Int32) (x2 : Int32) : entryFrame m #[(.int x0), (.int x1), (.int x2)] maxLocals = mkF m 0 #[.val (.int x0), .val (.int x1), .val (.int x2), .unset, .unset, .unset, .unset, .unset, .unset, .unset] [] := by first | (simp [entryFrame, mkF, argsToLocals, Value.category, maxLocals]; done) | rfl
set_option maxRecDepth 65536 in
set_option maxHeartbeats 4000000 in
theorem own_law_0 (p0 : Int32) (p1 : Int32) (p2 : Int32) (v2_0 : Int32) (v7_0 : Int32) (r29 : Int64) (r33 : Int64) (v36_0 : Int32) (r55 : Int32) (v58_0 : Int32) (hv2_0 : (if (p2 &&& (1 : Int32)) = (0 : Int32) then (0 : Int32) else (1 : Int32)) = v2_0) (hv7_0 : (if (p2 &&& (2 : Int32)) = (0 : Int32) then (0 : Int32) else (1 : Int32)) = v7_0) (hr29 : (if v2_0 = (0 : Int32) then (0 : Int64) else (-((1 : Int64) <<< (((((p0 &&& (63 : Int32)) % (63 : Int32)) + (1 : Int32)) - (1 : Int32)) &&& 0x3f).toInt64))) = r29) (hr33 : (if v7_0 = (0 : Int32) then (0 : Int64) else (-((1 : Int64) <<< (((((p1 &&& (63 : Int32)) % (63 : Int32)) + (1 : Int32)) - (1 : Int32)) &&& 0x3f).toInt64))) = r33) (hv36_0 : (if r33 < r29 then (0 : Int32) else (if (if v2_0 = (0 : Int32) then (((1 : Int64) <<< ((((p0 &&& (63 : Int32)) % (63 : Int32)) + (1 : Int32)) &&& 0x3f).toInt64) - (1 : Int64)) else (((1 : Int64) <<< (((((p0 &&& (63 : Int32)) % (63 : Int32)) + (1 : Int32)) - (1 : Int32)) &&& 0x3f).toInt64) - (1 : Int64))) < (if v7_0 = (0 : Int32) then (((1 : Int64) <<< ((((p1 &&& (63 : Int32)) % (63 : Int32)) + (1 : Int32)) &&& 0x3f).toInt64) - (1 : Int64)) else (((1 : Int64) <<< (((((p1 &&& (63 : Int32)) % (63 : Int32)) + (1 : Int32)) - (1 : Int32)) &&& 0x3f).toInt64) - (1 : Int64))) then (0 : Int32) else (1 : Int32))) = v36_0) (hr55 : ((if (v2_0 &&& 1) = (v7_0 &&& 1) then (if (((p0 &&& (63 : Int32)) % (63 : Int32)) + (1 : Int32)) < (((p1 &&& (63 : Int32)) % (63 : Int32)) + (1 : Int32)) then (0 : Int32) else (1 : Int32)) else (if (v2_0 &&& 1) = (0 : Int32) then (0 : Int32) else (if (((p1 &&& (63 : Int32)) % (63 : Int32)) + (1 : Int32)) < (((p0 &&& (63 : Int32)) % (63 : Int32)) + (1 : Int32)) then (1 : Int32) else (0 : Int32)))) &&& 1) = r55) (hv58_0 : (if r55 = v36_0 then (1 : Int32) else (0 : Int32)) = v58_0) : (v58_0 &&& 1) = (1 : Int32) := by
  obtain ⟨i, hi⟩ := own_rng p0
  obtain ⟨j, hj⟩ := own_rng p1
  rw [hi] at hr29 hv36_0 hr55
  rw [hj] at hr33 hv36_0 hr55
  have a1 := own_T1 i
  have a2 := own_T2 i
  have a3 := own_T3 i
  have a4 := own_T4 i
  have b1 := own_T1 j
  have b2 := own_T2 j
  have b3 := own_T3 j
  have b4 := own_T4 j
  have c1 := own_T5 i j
  have c2 := own_T5 j i
  have d1 : i.1 < j.1 → 2 * (2 ^ i.1 : Nat) ≤ (2 ^ j.1 : Nat) := own_pw
  have d2 : j.1 < i.1 → 2 * (2 ^ j.1 : Nat) ≤ (2 ^ i.1 : Nat) := own_pw
  have d3 : ¬ j.1 < i.1 → (2 ^ i.1 : Nat) ≤ (2 ^ j.1 : Nat) := fun h => Nat.pow_le_pow_right (by decide) (by omega)
  have d4 : ¬ i.1 < j.1 → (2 ^ j.1 : Nat) ≤ (2 ^ i.1 : Nat) := fun h => Nat.pow_le_pow_right (by decide) (by omega)
  have d5 : 0 < (2 ^ i.1 : Nat) := Nat.pow_pos (by decide)
  have d6 : 0 < (2 ^ j.1 : Nat) := Nat.pow_pos (by decide)
  have e0 : (0 : Int64).toInt = 0 := rfl
  generalize hA : (2 ^ i.1 : Nat) = A at a1 a2 a3 a4 d1 d2 d3 d4 d5
  generalize hB : (2 ^ j.1 : Nat) = B at b1 b2 b3 b4 d1 d2 d3 d4 d6
  have k0 : ¬ ((0 : Int) < 0) := by omega
  have k2 : (-(B : Int)) < 0 := by omega
  have k3 : ¬ ((0 : Int) < -(A : Int)) := by omega
  have tri : (i.1 < j.1 ∧ ¬ j.1 < i.1) ∨ (j.1 < i.1 ∧ ¬ i.1 < j.1) ∨ (¬ i.1 < j.1 ∧ ¬ j.1 < i.1) := by omega
  rcases tri with ⟨g1, g2⟩ | ⟨g2, g1⟩ | ⟨g1, g2⟩
  · have dd0 := d1 g1
    have k1 : 2 * (A : Int) - 1 < 2 * (B : Int) - 1 := by omega
    have k4 : (A : Int) - 1 < 2 * (B : Int) - 1 := by omega
    have k5 : -(B : Int) < -(A : Int) := by omega
    have k6 : (A : Int) - 1 < (B : Int) - 1 := by omega
    by_cases h1 : (p2 &&& (1 : Int32)) = (0 : Int32) <;> by_cases h2 : (p2 &&& (2 : Int32)) = (0 : Int32) <;> simp only [h1, h2, if_true, if_false] at hv2_0 hv7_0 <;> subst hv2_0 hv7_0 <;> simp +decide only [if_true, if_false] at hr29 hr33 hv36_0 hr55 <;> subst hr29 hr33 hv36_0 hr55 hv58_0 <;> simp only [c1, c2, g1, g2, own_lt64, a1, a2, a3, a4, b1, b2, b3, b4, e0, k0, k1, k2, k3, k4, k5, k6, if_true, if_false] <;> decide
  · have dd0 := d2 g2
    have k1 : ¬ (2 * (A : Int) - 1 < 2 * (B : Int) - 1) := by omega
    have k4 : ¬ ((A : Int) - 1 < 2 * (B : Int) - 1) := by omega
    have k5 : ¬ (-(B : Int) < -(A : Int)) := by omega
    have k6 : ¬ ((A : Int) - 1 < (B : Int) - 1) := by omega
    by_cases h1 : (p2 &&& (1 : Int32)) = (0 : Int32) <;> by_cases h2 : (p2 &&& (2 : Int32)) = (0 : Int32) <;> simp only [h1, h2, if_true, if_false] at hv2_0 hv7_0 <;> subst hv2_0 hv7_0 <;> simp +decide only [if_true, if_false] at hr29 hr33 hv36_0 hr55 <;> subst hr29 hr33 hv36_0 hr55 hv58_0 <;> simp only [c1, c2, g1, g2, own_lt64, a1, a2, a3, a4, b1, b2, b3, b4, e0, k0, k1, k2, k3, k4, k5, k6, if_true, if_false] <;> decide
  · have dd0 := d3 g2
    have dd1 := d4 g1
    have k1 : ¬ (2 * (A : Int) - 1 < 2 * (B : Int) - 1) := by omega
    have k4 : (A : Int) - 1 < 2 * (B : Int) - 1 := by omega
    have k5 : ¬ (-(B : Int) < -(A : Int)) := by omega
    have k6 : ¬ ((A : Int) - 1 < (B : Int) - 1) := by omega
    by_cases h1 : (p2 &&& (1 : Int32)) = (0 : Int32) <;> by_cases h2 : (p2 &&& (2 : Int32)) = (0 : Int32) <;> simp only [h1, h2, if_true, if_false] at hv2_0 hv7_0 <;> subst hv2_0 hv7_0 <;> simp +decide only [if_true, if_false] at hr29 hr33 hv36_0 hr55 <;> subst hr29 hr33 hv36_0 hr55 hv58_0 <;> simp only [c1, c2, g1, g2, own_lt64, a1, a2, a3, a4, b1, b2, b3, b4, e0, k0, k1, k2, k3, k4, k5, k6, if_true, if_false] <;> decide
set_option maxRecDepth 65536 in
set_option maxHeartbeats 40000000 in
theorem rm0 (l : Launch) (Z : State) (a0 : Array Value) (hw : ∀ d ∈ tables_1, d.before a0 Z = true) (ws : List Jvm.Cond) (p0 : Int32) (p1 : Int32) (p2 : Int32) (h0 : Heap) (n0 : Nat) (Z0 : n0 ≤ h0.size) :
    MetFree l x (head1 (Jvm.Cond.code x code maxLocals ret :: ws) room_1) (fun a U => a = #[(.int p0), (.int p1), (.int p2)] ∧ Z.Warmed39 U.vm ∧ U.heap = h0) (fun _ _ _ _ _ => True) (fun _ U o U' => ∃ v L, o = .returned v ∧ Q_rm0 n0 v L ∧ FrameEnd U o U' L 2 4) := by
  refine MetFree.of_bodySF (plainFor_of_name pn_0) hisR ?_
  intro p e s m args below meth c s₁ Bd hml0 hP hK
  obtain ⟨rfl, hZ, hh⟩ := hP
  have hx := Bd.exec
  have hby := Bd.bytes
  have hml : c.maxLocals = 10 := hml0
  have hown : s.vm.findClass "com/example/relinduct/relinduct/cfa/IntegerTypeHoldsPinLaw" = some m.cls := findClass_of_methodNamed Bd.named
  have hnm := (name_of_methodNamed Bd.named Bd.method).1
  have X0 : Stand p l e room_1 s m #[(.int p0), (.int p1), (.int p2)] below meth c s₁ [] 0 0 := Stand.of_body Bd
  have e0 : s₁.heap = h0 := by rw [← hh, Bd.state]; rfl
  have N0 := Fr.nil n0
  have K0 : Steps p.tables e below (s₁.setTop (entryFrame m #[(.int p0), (.int p1), (.int p2)] maxLocals)) (s₁.setTop (mkF m 0 #[.val (.int p0), .val (.int p1), .val (.int p2), .unset, .unset, .unset, .unset, .unset, .unset, .unset] [])) := castTop (ef_0 m p0 p1 p2) (Steps.refl _)
  have K1 : Steps p.tables e below _ (s₁.setTop (mkF m 24 #[.val (.int p0), .val (.int p1), .val (.int p2), .val (.int (((p0 &&& (63 : Int32)) % (63 : Int32)) + (1 : Int32))), .val (.int (((p1 &&& (63 : Int32)) % (63 : Int32)) + (1 : Int32))), .unset, .unset, .unset, .unset, .unset] [(.int (p2 &&& (1 : Int32)))])) := K0.trans (by
    show Steps p.tables e below (s₁.setTop (mkF m 0 #[.val (.int p0), .val (.int p1), .val (.int p2), .unset, .unset, .unset, .unset, .unset, .unset, .unset] [])) _
    refine XS.iloadN X0.here hx rfl (hb hby at_0) rfl ?_
    show Steps p.tables e below (s₁.setTop (mkF m 1 #[.val (.int p0), .val (.int p1), .val (.int p2), .unset, .unset, .unset, .unset, .unset, .unset, .unset] [(.int p0)])) _
    refine XS.bipush X0.here hx rfl (hb hby at_1) ?_
    show Steps p.tables e below (s₁.setTop (mkF m 3 #[.val (.int p0), .val (.int p1), .val (.int p2), .unset, .unset, .unset, .unset, .unset, .unset, .unset] [(.int (63 : Int32)), (.int p0)])) _
    refine XS.iand X0.here hx rfl (hb hby at_3) rfl ?_
    show Steps p.tables e below (s₁.setTop (mkF m 4 #[.val (.int p0), .val (.int p1), .val (.int p2), .unset, .unset, .unset, .unset, .unset, .unset, .unset] [(.int (p0 &&& (63 : Int32)))])) _
    refine XS.bipush X0.here hx rfl (hb hby at_4) ?_
    show Steps p.tables e below (s₁.setTop (mkF m 6 #[.val (.int p0), .val (.int p1), .val (.int p2), .unset, .unset, .unset, .unset, .unset, .unset, .unset] [(.int (63 : Int32)), (.int (p0 &&& (63 : Int32)))])) _
    refine iremM X0 hx rfl (hb hby at_6) rfl (by decide) ?_
    show Steps p.tables e below (s₁.setTop (mkF m 7 #[.val (.int p0), .val (.int p1), .val (.int p2), .unset, .unset, .unset, .unset, .unset, .unset, .unset] [(.int ((p0 &&& (63 : Int32)) % (63 : Int32)))])) _
    refine XS.iconst X0.here hx rfl (hb hby at_7) ?_
    show Steps p.tables e below (s₁.setTop (mkF m 8 #[.val (.int p0), .val (.int p1), .val (.int p2), .unset, .unset, .unset, .unset, .unset, .unset, .unset] [(.int (1 : Int32)), (.int ((p0 &&& (63 : Int32)) % (63 : Int32)))])) _
    refine XS.iadd X0.here hx rfl (hb hby at_8) rfl ?_
    show Steps p.tables e below (s₁.setTop (mkF m 9 #[.val (.int p0), .val (.int p1), .val (.int p2), .unset, .unset, .unset, .unset, .unset, .unset, .unset] [(.int (((p0 &&& (63 : Int32)) % (63 : Int32)) + (1 : Int32)))])) _
    refine XS.istoreN X0.here hx rfl (hb hby at_9) rfl (l' := #[.val (.int p0), .val (.int p1), .val (.int p2), .val (.int (((p0 &&& (63 : Int32)) % (63 : Int32)) + (1 : Int32))), .unset, .unset, .unset, .unset, .unset, .unset]) rfl ?_
    show Steps p.tables e below (s₁.setTop (mkF m 10 #[.val (.int p0), .val (.int p1), .val (.int p2), .val (.int (((p0 &&& (63 : Int32)) % (63 : Int32)) + (1 : Int32))), .unset, .unset, .unset, .unset, .unset, .unset] [])) _
    refine XS.iloadN X0.here hx rfl (hb hby at_10) rfl ?_
    show Steps p.tables e below (s₁.setTop (mkF m 11 #[.val (.int p0), .val (.int p1), .val (.int p2), .val (.int (((p0 &&& (63 : Int32)) % (63 : Int32)) + (1 : Int32))), .unset, .unset, .unset, .unset, .unset, .unset] [(.int p1)])) _
    refine XS.bipush X0.here hx rfl (hb hby at_11) ?_
    show Steps p.tables e below (s₁.setTop (mkF m 13 #[.val (.int p0), .val (.int p1), .val (.int p2), .val (.int (((p0 &&& (63 : Int32)) % (63 : Int32)) + (1 : Int32))), .unset, .unset, .unset, .unset, .unset, .unset] [(.int (63 : Int32)), (.int p1)])) _
    refine XS.iand X0.here hx rfl (hb hby at_13) rfl ?_
    show Steps p.tables e below (s₁.setTop (mkF m 14 #[.val (.int p0), .val (.int p1), .val (.int p2), .val (.int (((p0 &&& (63 : Int32)) % (63 : Int32)) + (1 : Int32))), .unset, .unset, .unset, .unset, .unset, .unset] [(.int (p1 &&& (63 : Int32)))])) _
    refine XS.bipush X0.here hx rfl (hb hby at_14) ?_
    show Steps p.tables e below (s₁.setTop (mkF m 16 #[.val (.int p0), .val (.int p1), .val (.int p2), .val (.int (((p0 &&& (63 : Int32)) % (63 : Int32)) + (1 : Int32))), .unset, .unset, .unset, .unset, .unset, .unset] [(.int (63 : Int32)), (.int (p1 &&& (63 : Int32)))])) _
    refine iremM X0 hx rfl (hb hby at_16) rfl (by decide) ?_
    show Steps p.tables e below (s₁.setTop (mkF m 17 #[.val (.int p0), .val (.int p1), .val (.int p2), .val (.int (((p0 &&& (63 : Int32)) % (63 : Int32)) + (1 : Int32))), .unset, .unset, .unset, .unset, .unset, .unset] [(.int ((p1 &&& (63 : Int32)) % (63 : Int32)))])) _
    refine XS.iconst X0.here hx rfl (hb hby at_17) ?_
    show Steps p.tables e below (s₁.setTop (mkF m 18 #[.val (.int p0), .val (.int p1), .val (.int p2), .val (.int (((p0 &&& (63 : Int32)) % (63 : Int32)) + (1 : Int32))), .unset, .unset, .unset, .unset, .unset, .unset] [(.int (1 : Int32)), (.int ((p1 &&& (63 : Int32)) % (63 : Int32)))])) _
    refine XS.iadd X0.here hx rfl (hb hby at_18) rfl ?_
    show Steps p.tables e below (s₁.setTop (mkF m 19 #[.val (.int p0), .val (.int p1), .val (.int p2), .val (.int (((p0 &&& (63 : Int32)) % (63 : Int32)) + (1 : Int32))), .unset, .unset, .unset, .unset, .unset, .unset] [(.int (((p1 &&& (63 : Int32)) % (63 : Int32)) + (1 : Int32)))])) _
    refine XS.istore X0.here hx rfl (hb hby at_19) rfl (l' := #[.val (.int p0), .val (.int p1), .val (.int p2), .val (.int (((p0 &&& (63 : Int32)) % (63 : Int32)) + (1 : Int32))), .val (.int (((p1 &&& (63 : Int32)) % (63 : Int32)) + (1 : Int32))), .unset, .unset, .unset, .unset, .unset]) rfl ?_
    show Steps p.tables e below (s₁.setTop (mkF m 21 #[.val (.int p0), .val (.int p1), .val (.int p2), .val (.int (((p0 &&& (63 : Int32)) % (63 : Int32)) + (1 : Int32))), .val (.int (((p1 &&& (63 : Int32)) % (63 : Int32)) + (1 : Int32))), .unset, .unset, .unset, .unset, .unset] [])) _
    refine XS.iloadN X0.here hx rfl (hb hby at_21) rfl ?_
    show Steps p.tables e below (s₁.setTop (mkF m 22 #[.val (.int p0), .val (.int p1), .val (.int p2), .val (.int (((p0 &&& (63 : Int32)) % (63 : Int32)) + (1 : Int32))), .val (.int (((p1 &&& (63 : Int32)) % (63 : Int32)) + (1 : Int32))), .unset, .unset, .unset, .unset, .unset] [(.int p2)])) _
    refine XS.iconst X0.here hx rfl (hb hby at_22) ?_
    show Steps p.tables e below (s₁.setTop (mkF m 23 #[.val (.int p0), .val (.int p1), .val (.int p2), .val (.int (((p0 &&& (63 : Int32)) % (63 : Int32)) + (1 : Int32))), .val (.int (((p1 &&& (63 : Int32)) % (63 : Int32)) + (1 : Int32))), .unset, .unset, .unset, .unset, .unset] [(.int (1 : Int32)), (.int p2)])) _
    refine XS.iand X0.here hx rfl (hb hby at_23) rfl ?_
    show Steps p.tables e below (s₁.setTop (mkF m 24 #[.val (.int p0), .val (.int p1), .val (.int p2), .val (.int (((p0 &&& (63 : Int32)) % (63 : Int32)) + (1 : Int32))), .val (.int (((p1 &&& (63 : Int32)) % (63 : Int32)) + (1 : Int32))), .unset, .unset, .unset, .unset, .unset] [(.int (p2 &&& (1 : Int32)))])) _
    exact Steps.refl _)
  obtain ⟨v2_0, hv2_0, S2⟩ : ∃ (v2_0 : Int32), (if (p2 &&& (1 : Int32)) = (0 : Int32) then (0 : Int32) else (1 : Int32)) = v2_0 ∧ Steps p.tables e below (s₁.setTop (mkF m 24 #[.val (.int p0), .val (.int p1), .val (.int p2), .val (.int (((p0 &&& (63 : Int32)) % (63 : Int32)) + (1 : Int32))), .val (.int (((p1 &&& (63 : Int32)) % (63 : Int32)) + (1 : Int32))), .unset, .unset, .unset, .unset, .unset] [(.int (p2 &&& (1 : Int32)))])) (s₁.setTop (mkF m 32 #[.val (.int p0), .val (.int p1), .val (.int p2), .val (.int (((p0 &&& (63 : Int32)) % (63 : Int32)) + (1 : Int32))), .val (.int (((p1 &&& (63 : Int32)) % (63 : Int32)) + (1 : Int32))), .unset, .unset, .unset, .unset, .unset] [(.int v2_0)])) := by
    have R2 : Steps p.tables e below (s₁.setTop (mkF m 24 #[.val (.int p0), .val (.int p1), .val (.int p2), .val (.int (((p0 &&& (63 : Int32)) % (63 : Int32)) + (1 : Int32))), .val (.int (((p1 &&& (63 : Int32)) % (63 : Int32)) + (1 : Int32))), .unset, .unset, .unset, .unset, .unset] [(.int (p2 &&& (1 : Int32)))])) (s₁.setTop (mkF m 24 #[.val (.int p0), .val (.int p1), .val (.int p2), .val (.int (((p0 &&& (63 : Int32)) % (63 : Int32)) + (1 : Int32))), .val (.int (((p1 &&& (63 : Int32)) % (63 : Int32)) + (1 : Int32))), .unset, .unset, .unset, .unset, .unset] [(.int (p2 &&& (1 : Int32)))])) := Steps.refl _
    by_cases hc24 : (p2 &&& (1 : Int32)) = (0 : Int32)
    · have K3 : Steps p.tables e below _ (s₁.setTop (mkF m 32 #[.val (.int p0), .val (.int p1), .val (.int p2), .val (.int (((p0 &&& (63 : Int32)) % (63 : Int32)) + (1 : Int32))), .val (.int (((p1 &&& (63 : Int32)) % (63 : Int32)) + (1 : Int32))), .unset, .unset, .unset, .unset, .unset] [(.int (0 : Int32))])) := R2.trans (by
        show Steps p.tables e below (s₁.setTop (mkF m 24 #[.val (.int p0), .val (.int p1), .val (.int p2), .val (.int (((p0 &&& (63 : Int32)) % (63 : Int32)) + (1 : Int32))), .val (.int (((p1 &&& (63 : Int32)) % (63 : Int32)) + (1 : Int32))), .unset, .unset, .unset, .unset, .unset] [(.int (p2 &&& (1 : Int32)))])) _
        refine XS.ifYes X0.here hx rfl (pc0 := 24) (pc' := 31) rfl (hb hby at_24) rfl ((if0 _ _).trans (teq hc24).1) (by decide) (by decide) ?_
        show Steps p.tables e below (s₁.setTop (mkF m 31 #[.val (.int p0), .val (.int p1), .val (.int p2), .val (.int (((p0 &&& (63 : Int32)) % (63 : Int32)) + (1 : Int32))), .val (.int (((p1 &&& (63 : Int32)) % (63 : Int32)) + (1 : Int32))), .unset, .unset, .unset, .unset, .unset] [])) _
        refine XS.iconst X0.here hx rfl (hb hby at_31) ?_
        show Steps p.tables e below (s₁.setTop (mkF m 32 #[.val (.int p0), .val (.int p1), .val (.int p2), .val (.int (((p0 &&& (63 : Int32)) % (63 : Int32)) + (1 : Int32))), .val (.int (((p1 &&& (63 : Int32)) % (63 : Int32)) + (1 : Int32))), .unset, .unset, .unset, .unset, .unset] [(.int (0 : Int32))])) _
        exact Steps.refl _)
      exact ⟨(0 : Int32), (by rw [if_pos hc24]), K3⟩
    · have K4 : Steps p.tables e below _ (s₁.setTop (mkF m 32 #[.val (.int p0), .val (.int p1), .val (.int p2), .val (.int (((p0 &&& (63 : Int32)) % (63 : Int32)) + (1 : Int32))), .val (.int (((p1 &&& (63 : Int32)) % (63 : Int32)) + (1 : Int32))), .unset, .unset, .unset, .unset, .unset] [(.int (1 : Int32))])) := R2.trans (by
        show Steps p.tables e below (s₁.setTop (mkF m 24 #[.val (.int p0), .val (.int p1), .val (.int p2), .val (.int (((p0 &&& (63 : Int32)) % (63 : Int32)) + (1 : Int32))), .val (.int (((p1 &&& (63 : Int32)) % (63 : Int32)) + (1 : Int32))), .unset, .unset, .unset, .unset, .unset] [(.int (p2 &&& (1 : Int32)))])) _
        refine XS.ifNo X0.here hx rfl (hb hby at_24) rfl ((if0 _ _).trans (feq hc24).1) ?_
        show Steps p.tables e below (s₁.setTop (mkF m 27 #[.val (.int p0), .val (.int p1), .val (.int p2), .val (.int (((p0 &&& (63 : Int32)) % (63 : Int32)) + (1 : Int32))), .val (.int (((p1 &&& (63 : Int32)) % (63 : Int32)) + (1 : Int32))), .unset, .unset, .unset, .unset, .unset] [])) _
        refine XS.iconst X0.here hx rfl (hb hby at_27) ?_
        show Steps p.tables e below (s₁.setTop (mkF m 28 #[.val (.int p0), .val (.int p1), .val (.int p2), .val (.int (((p0 &&& (63 : Int32)) % (63 : Int32)) + (1 : Int32))), .val (.int (((p1 &&& (63 : Int32)) % (63 : Int32)) + (1 : Int32))), .unset, .unset, .unset, .unset, .unset] [(.int (1 : Int32))])) _
        refine XS.goto X0.here hx rfl (pc0 := 28) (pc' := 32) rfl (hb hby at_28) (by decide) (by decide) ?_
        show Steps p.tables e below (s₁.setTop (mkF m 32 #[.val (.int p0), .val (.int p1), .val (.int p2), .val (.int (((p0 &&& (63 : Int32)) % (63 : Int32)) + (1 : Int32))), .val (.int (((p1 &&& (63 : Int32)) % (63 : Int32)) + (1 : Int32))), .unset, .unset, .unset, .unset, .unset] [(.int (1 : Int32))])) _
        exact Steps.refl _)
      exact ⟨(1 : Int32), (by rw [if_neg hc24]), K4⟩
  have K5 := K1.trans S2
  have K6 : Steps p.tables e below _ (s₁.setTop (mkF m 37 #[.val (.int p0), .val (.int p1), .val (.int p2), .val (.int (((p0 &&& (63 : Int32)) % (63 : Int32)) + (1 : Int32))), .val (.int (((p1 &&& (63 : Int32)) % (63 : Int32)) + (1 : Int32))), .val (.int v2_0), .unset, .unset, .unset, .unset] [(.int (p2 &&& (2 : Int32)))])) := K5.trans (by
    show Steps p.tables e below (s₁.setTop (mkF m 32 #[.val (.int p0), .val (.int p1), .val (.int p2), .val (.int (((p0 &&& (63 : Int32)) % (63 : Int32)) + (1 : Int32))), .val (.int (((p1 &&& (63 : Int32)) % (63 : Int32)) + (1 : Int32))), .unset, .unset, .unset, .unset, .unset] [(.int v2_0)])) _
    refine XS.istore X0.here hx rfl (hb hby at_32) rfl (l' := #[.val (.int p0), .val (.int p1), .val (.int p2), .val (.int (((p0 &&& (63 : Int32)) % (63 : Int32)) + (1 : Int32))), .val (.int (((p1 &&& (63 : Int32)) % (63 : Int32)) + (1 : Int32))), .val (.int v2_0), .unset, .unset, .unset, .unset]) rfl ?_
    show Steps p.tables e below (s₁.setTop (mkF m 34 #[.val (.int p0), .val (.int p1), .val (.int p2), .val (.int (((p0 &&& (63 : Int32)) % (63 : Int32)) + (1 : Int32))), .val (.int (((p1 &&& (63 : Int32)) % (63 : Int32)) + (1 : Int32))), .val (.int v2_0), .unset, .unset, .unset, .unset] [])) _
    refine XS.iloadN X0.here hx rfl (hb hby at_34) rfl ?_
    show Steps p.tables e below (s₁.setTop (mkF m 35 #[.val (.int p0), .val (.int p1), .val (.int p2), .val (.int (((p0 &&& (63 : Int32)) % (63 : Int32)) + (1 : Int32))), .val (.int (((p1 &&& (63 : Int32)) % (63 : Int32)) + (1 : Int32))), .val (.int v2_0), .unset, .unset, .unset, .unset] [(.int p2)])) _
    refine XS.iconst X0.here hx rfl (hb hby at_35) ?_
    show Steps p.tables e below (s₁.setTop (mkF m 36 #[.val (.int p0), .val (.int p1), .val (.int p2), .val (.int (((p0 &&& (63 : Int32)) % (63 : Int32)) + (1 : Int32))), .val (.int (((p1 &&& (63 : Int32)) % (63 : Int32)) + (1 : Int32))), .val (.int v2_0), .unset, .unset, .unset, .unset] [(.int (2 : Int32)), (.int p2)])) _
    refine XS.iand X0.here hx rfl (hb hby at_36) rfl ?_
    show Steps p.tables e below (s₁.setTop (mkF m 37 #[.val (.int p0), .val (.int p1), .val (.int p2), .val (.int (((p0 &&& (63 : Int32)) % (63 : Int32)) + (1 : Int32))), .val (.int (((p1 &&& (63 : Int32)) % (63 : Int32)) + (1 : Int32))), .val (.int v2_0), .unset, .unset, .unset, .unset] [(.int (p2 &&& (2 : Int32)))])) _
    exact Steps.refl _)
  obtain ⟨v7_0, hv7_0, S7⟩ : ∃ (v7_0 : Int32), (if (p2 &&& (2 : Int32)) = (0 : Int32) then (0 : Int32) else (1 : Int32)) = v7_0 ∧ Steps p.tables e below (s₁.setTop (mkF m 37 #[.val (.int p0), .val (.int p1), .val (.int p2), .val (.int (((p0 &&& (63 : Int32)) % (63 : Int32)) + (1 : Int32))), .val (.int (((p1 &&& (63 : Int32)) % (63 : Int32)) + (1 : Int32))), .val (.int v2_0), .unset, .unset, .unset, .unset] [(.int (p2 &&& (2 : Int32)))])) (s₁.setTop (mkF m 45 #[.val (.int p0), .val (.int p1), .val (.int p2), .val (.int (((p0 &&& (63 : Int32)) % (63 : Int32)) + (1 : Int32))), .val (.int (((p1 &&& (63 : Int32)) % (63 : Int32)) + (1 : Int32))), .val (.int v2_0), .unset, .unset, .unset, .unset] [(.int v7_0)])) := by
    have R7 : Steps p.tables e below (s₁.setTop (mkF m 37 #[.val (.int p0), .val (.int p1), .val (.int p2), .val (.int (((p0 &&& (63 : Int32)) % (63 : Int32)) + (1 : Int32))), .val (.int (((p1 &&& (63 : Int32)) % (63 : Int32)) + (1 : Int32))), .val (.int v2_0), .unset, .unset, .unset, .unset] [(.int (p2 &&& (2 : Int32)))])) (s₁.setTop (mkF m 37 #[.val (.int p0), .val (.int p1), .val (.int p2), .val (.int (((p0 &&& (63 : Int32)) % (63 : Int32)) + (1 : Int32))), .val (.int (((p1 &&& (63 : Int32)) % (63 : Int32)) + (1 : Int32))), .val (.int v2_0), .unset, .unset, .unset, .unset] [(.int (p2 &&& (2 : Int32)))])) := Steps.refl _
    by_cases hc37 : (p2 &&& (2 : Int32)) = (0 : Int32)
    · have K8 : Steps p.tables e below _ (s₁.setTop (mkF m 45 #[.val (.int p0), .val (.int p1), .val (.int p2), .val (.int (((p0 &&& (63 : Int32)) % (63 : Int32)) + (1 : Int32))), .val (.int (((p1 &&& (63 : Int32)) % (63 : Int32)) + (1 : Int32))), .val (.int v2_0), .unset, .unset, .unset, .unset] [(.int (0 : Int32))])) := R7.trans (by
        show Steps p.tables e below (s₁.setTop (mkF m 37 #[.val (.int p0), .val (.int p1), .val (.int p2), .val (.int (((p0 &&& (63 : Int32)) % (63 : Int32)) + (1 : Int32))), .val (.int (((p1 &&& (63 : Int32)) % (63 : Int32)) + (1 : Int32))), .val (.int v2_0), .unset, .unset, .unset, .unset] [(.int (p2 &&& (2 : Int32)))])) _
        refine XS.ifYes X0.here hx rfl (pc0 := 37) (pc' := 44) rfl (hb hby at_37) rfl ((if0 _ _).trans (teq hc37).1) (by decide) (by decide) ?_
        show Steps p.tables e below (s₁.setTop (mkF m 44 #[.val (.int p0), .val (.int p1), .val (.int p2), .val (.int (((p0 &&& (63 : Int32)) % (63 : Int32)) + (1 : Int32))), .val (.int (((p1 &&& (63 : Int32)) % (63 : Int32)) + (1 : Int32))), .val (.int v2_0), .unset, .unset, .unset, .unset] [])) _
        refine XS.iconst X0.here hx rfl (hb hby at_44) ?_
        show Steps p.tables e below (s₁.setTop (mkF m 45 #[.val (.int p0), .val (.int p1), .val (.int p2), .val (.int (((p0 &&& (63 : Int32)) % (63 : Int32)) + (1 : Int32))), .val (.int (((p1 &&& (63 : Int32)) % (63 : Int32)) + (1 : Int32))), .val (.int v2_0), .unset, .unset, .unset, .unset] [(.int (0 : Int32))])) _
        exact Steps.refl _)
      exact ⟨(0 : Int32), (by rw [if_pos hc37]), K8⟩
    · have K9 : Steps p.tables e below _ (s₁.setTop (mkF m 45 #[.val (.int p0), .val (.int p1), .val (.int p2), .val (.int (((p0 &&& (63 : Int32)) % (63 : Int32)) + (1 : Int32))), .val (.int (((p1 &&& (63 : Int32)) % (63 : Int32)) + (1 : Int32))), .val (.int v2_0), .unset, .unset, .unset, .unset] [(.int (1 : Int32))])) := R7.trans (by
        show Steps p.tables e below (s₁.setTop (mkF m 37 #[.val (.int p0), .val (.int p1), .val (.int p2), .val (.int (((p0 &&& (63 : Int32)) % (63 : Int32)) + (1 : Int32))), .val (.int (((p1 &&& (63 : Int32)) % (63 : Int32)) + (1 : Int32))), .val (.int v2_0), .unset, .unset, .unset, .unset] [(.int (p2 &&& (2 : Int32)))])) _
        refine XS.ifNo X0.here hx rfl (hb hby at_37) rfl ((if0 _ _).trans (feq hc37).1) ?_
        show Steps p.tables e below (s₁.setTop (mkF m 40 #[.val (.int p0), .val (.int p1), .val (.int p2), .val (.int (((p0 &&& (63 : Int32)) % (63 : Int32)) + (1 : Int32))), .val (.int (((p1 &&& (63 : Int32)) % (63 : Int32)) + (1 : Int32))), .val (.int v2_0), .unset, .unset, .unset, .unset] [])) _
        refine XS.iconst X0.here hx rfl (hb hby at_40) ?_
        show Steps p.tables e below (s₁.setTop (mkF m 41 #[.val (.int p0), .val (.int p1), .val (.int p2), .val (.int (((p0 &&& (63 : Int32)) % (63 : Int32)) + (1 : Int32))), .val (.int (((p1 &&& (63 : Int32)) % (63 : Int32)) + (1 : Int32))), .val (.int v2_0), .unset, .unset, .unset, .unset] [(.int (1 : Int32))])) _
        refine XS.goto X0.here hx rfl (pc0 := 41) (pc' := 45) rfl (hb hby at_41) (by decide) (by decide) ?_
        show Steps p.tables e below (s₁.setTop (mkF m 45 #[.val (.int p0), .val (.int p1), .val (.int p2), .val (.int (((p0 &&& (63 : Int32)) % (63 : Int32)) + (1 : Int32))), .val (.int (((p1 &&& (63 : Int32)) % (63 : Int32)) + (1 : Int32))), .val (.int v2_0), .unset, .unset, .unset, .unset] [(.int (1 : Int32))])) _
        exact Steps.refl _)
      exact ⟨(1 : Int32), (by rw [if_neg hc37]), K9⟩
  have K10 := K6.trans S7
  have K11 : Steps p.tables e below _ (s₁.setTop (mkF m 47 #[.val (.int p0), .val (.int p1), .val (.int p2), .val (.int (((p0 &&& (63 : Int32)) % (63 : Int32)) + (1 : Int32))), .val (.int (((p1 &&& (63 : Int32)) % (63 : Int32)) + (1 : Int32))), .val (.int v2_0), .val (.int v7_0), .unset, .unset, .unset] [])) := K10.trans (by
    show Steps p.tables e below (s₁.setTop (mkF m 45 #[.val (.int p0), .val (.int p1), .val (.int p2), .val (.int (((p0 &&& (63 : Int32)) % (63 : Int32)) + (1 : Int32))), .val (.int (((p1 &&& (63 : Int32)) % (63 : Int32)) + (1 : Int32))), .val (.int v2_0), .unset, .unset, .unset, .unset] [(.int v7_0)])) _
    refine XS.istore X0.here hx rfl (hb hby at_45) rfl (l' := #[.val (.int p0), .val (.int p1), .val (.int p2), .val (.int (((p0 &&& (63 : Int32)) % (63 : Int32)) + (1 : Int32))), .val (.int (((p1 &&& (63 : Int32)) % (63 : Int32)) + (1 : Int32))), .val (.int v2_0), .val (.int v7_0), .unset, .unset, .unset]) rfl ?_
    show Steps p.tables e below (s₁.setTop (mkF m 47 #[.val (.int p0), .val (.int p1), .val (.int p2), .val (.int (((p0 &&& (63 : Int32)) % (63 : Int32)) + (1 : Int32))), .val (.int (((p1 &&& (63 : Int32)) % (63 : Int32)) + (1 : Int32))), .val (.int v2_0), .val (.int v7_0), .unset, .unset, .unset] [])) _
    exact Steps.refl _)
  obtain ⟨T12, h12, X12, e12, E12, A12, D12, -, st12⟩ := newO X0 hx hZ hown (hw _ (List.mem_of_getElem? (i := 0) rfl)) (hw _ (List.mem_of_getElem? (i := 1) rfl)) (hw _ (List.mem_of_getElem? (i := 2) rfl)) e0 (g := (mkF m 47 #[.val (.int p0), .val (.int p1), .val (.int p2), .val (.int (((p0 &&& (63 : Int32)) % (63 : Int32)) + (1 : Int32))), .val (.int (((p1 &&& (63 : Int32)) % (63 : Int32)) + (1 : Int32))), .val (.int v2_0), .val (.int v7_0), .unset, .unset, .unset] [])) rfl (hb hby at_47) (by decide) (by decide)
  obtain ⟨b12, g12⟩ : ∃ z, z = h0.size := ⟨_, rfl⟩
  rw [← g12] at A12 D12 st12
  have ge_b12 : n0 ≤ b12 := Nat.le_trans Z0 (Nat.le_of_eq g12.symm)
  have K13 : Steps p.tables e below _ (T12.setTop (mkF m 50 #[.val (.int p0), .val (.int p1), .val (.int p2), .val (.int (((p0 &&& (63 : Int32)) % (63 : Int32)) + (1 : Int32))), .val (.int (((p1 &&& (63 : Int32)) % (63 : Int32)) + (1 : Int32))), .val (.int v2_0), .val (.int v7_0), .unset, .unset, .unset] [(.ref b12)])) := K11.trans (st12 _ (Steps.refl _))
  have F12_bits : Fld Z h12 b12 "com/example/relinduct/relinduct/cfa/IntegerType" "bits" "I" (.int (0 : Int32)) := D12 (Or.inr (hw _ (List.mem_of_getElem? (i := 15) rfl))) (ty := .int) (by decide)
  have F12_signed : Fld Z h12 b12 "com/example/relinduct/relinduct/cfa/IntegerType" "signed" "Z" (.int (0 : Int32)) := D12 (Or.inr (hw _ (List.mem_of_getElem? (i := 17) rfl))) (ty := .boolean) (by decide)
  have K14 : Steps p.tables e below _ (T12.setTop (mkF m 54 #[.val (.int p0), .val (.int p1), .val (.int p2), .val (.int (((p0 &&& (63 : Int32)) % (63 : Int32)) + (1 : Int32))), .val (.int (((p1 &&& (63 : Int32)) % (63 : Int32)) + (1 : Int32))), .val (.int v2_0), .val (.int v7_0), .unset, .unset, .unset] [(.int v2_0), (.int (((p0 &&& (63 : Int32)) % (63 : Int32)) + (1 : Int32))), (.ref b12), (.ref b12)])) := K13.trans (by
    show Steps p.tables e below (T12.setTop (mkF m 50 #[.val (.int p0), .val (.int p1), .val (.int p2), .val (.int (((p0 &&& (63 : Int32)) % (63 : Int32)) + (1 : Int32))), .val (.int (((p1 &&& (63 : Int32)) % (63 : Int32)) + (1 : Int32))), .val (.int v2_0), .val (.int v7_0), .unset, .unset, .unset] [(.ref b12)])) _
    refine XS.dup X12.here hx rfl (hb hby at_50) rfl rfl ?_
    show Steps p.tables e below (T12.setTop (mkF m 51 #[.val (.int p0), .val (.int p1), .val (.int p2), .val (.int (((p0 &&& (63 : Int32)) % (63 : Int32)) + (1 : Int32))), .val (.int (((p1 &&& (63 : Int32)) % (63 : Int32)) + (1 : Int32))), .val (.int v2_0), .val (.int v7_0), .unset, .unset, .unset] [(.ref b12), (.ref b12)])) _
    refine XS.iloadN X12.here hx rfl (hb hby at_51) rfl ?_
    show Steps p.tables e below (T12.setTop (mkF m 52 #[.val (.int p0), .val (.int p1), .val (.int p2), .val (.int (((p0 &&& (63 : Int32)) % (63 : Int32)) + (1 : Int32))), .val (.int (((p1 &&& (63 : Int32)) % (63 : Int32)) + (1 : Int32))), .val (.int v2_0), .val (.int v7_0), .unset, .unset, .unset] [(.int (((p0 &&& (63 : Int32)) % (63 : Int32)) + (1 : Int32))), (.ref b12), (.ref b12)])) _
    refine XS.iload X12.here hx rfl (hb hby at_52) rfl ?_
    show Steps p.tables e below (T12.setTop (mkF m 54 #[.val (.int p0), .val (.int p1), .val (.int p2), .val (.int (((p0 &&& (63 : Int32)) % (63 : Int32)) + (1 : Int32))), .val (.int (((p1 &&& (63 : Int32)) % (63 : Int32)) + (1 : Int32))), .val (.int v2_0), .val (.int v7_0), .unset, .unset, .unset] [(.int v2_0), (.int (((p0 &&& (63 : Int32)) % (63 : Int32)) + (1 : Int32))), (.ref b12), (.ref b12)])) _
    exact Steps.refl _)
  have Z_15 : n0 ≤ h12.size := (Nat.le_trans Z0 E12.1)
  obtain ⟨_, _, ⟨T16, L16, k16, n16⟩, -, X16, ⟨Lc16, hQ16, l16, y16, z16⟩, st16⟩ := X12.specialBack hx (y := (⟨"com/example/relinduct/relinduct/cfa/IntegerType", "<init>", "(IZ)V"⟩ : MethodName)) rfl hown (mvT hZ (hw _ (List.mem_of_getElem? (i := 3) rfl))) (mvT hZ (hw _ (List.mem_of_getElem? (i := 4) rfl))) (mvT hZ (hw _ (List.mem_of_getElem? (i := 5) rfl))) (by decide) (backOf (W := 1) (rm1 l Z a0 hw [] b12 (((p0 &&& (63 : Int32)) % (63 : Int32)) + (1 : Int32)) v2_0 (.int (0 : Int32)) (.int (0 : Int32)) h12 n0 Z_15 ge_b12 A12 F12_bits F12_signed) hZ (hw _ (List.mem_of_getElem? (i := 5) rfl)) (hw _ (List.mem_of_getElem? (i := 2) rfl)) (by decide) (by decide)) (g := (mkF m 54 #[.val (.int p0), .val (.int p1), .val (.int p2), .val (.int (((p0 &&& (63 : Int32)) % (63 : Int32)) + (1 : Int32))), .val (.int (((p1 &&& (63 : Int32)) % (63 : Int32)) + (1 : Int32))), .val (.int v2_0), .val (.int v7_0), .unset, .unset, .unset] [(.int v2_0), (.int (((p0 &&& (63 : Int32)) % (63 : Int32)) + (1 : Int32))), (.ref b12), (.ref b12)])) rfl (by rw [hml]; rfl) K14 (a := b12) (argsL := [(.int (((p0 &&& (63 : Int32)) % (63 : Int32)) + (1 : Int32))), (.int v2_0)]) (rest := [(.ref b12)]) (lenOf pd_1 rfl) rfl (by show 2 * 0 + _ ≤ _; exact Nat.le_of_eq rfl) (hb hby at_54) (fun _ _ => ⟨rfl, e12, (by decide : 1 + 0 ≤ _), (by decide : 2 + 0 ≤ _)⟩)
  dsimp only [Pt.U, Pt.locs, Pt.cells, Pt.slots] at X16 l16 y16 z16 st16 hQ16
  subst l16 y16 z16
  obtain ⟨rfl, N16, Kp16, Q16_0, Q16_1, Q16_2⟩ := hQ16
  have N16' := Fr.app N0 N16
  have K17 : Steps p.tables e below _ (T16.setTop (mkF m 57 #[.val (.int p0), .val (.int p1), .val (.int p2), .val (.int (((p0 &&& (63 : Int32)) % (63 : Int32)) + (1 : Int32))), .val (.int (((p1 &&& (63 : Int32)) % (63 : Int32)) + (1 : Int32))), .val (.int v2_0), .val (.int v7_0), .unset, .unset, .unset] [(.ref b12)])) := st16
  have K18 : Steps p.tables e below _ (T16.setTop (mkF m 59 #[.val (.int p0), .val (.int p1), .val (.int p2), .val (.int (((p0 &&& (63 : Int32)) % (63 : Int32)) + (1 : Int32))), .val (.int (((p1 &&& (63 : Int32)) % (63 : Int32)) + (1 : Int32))), .val (.int v2_0), .val (.int v7_0), .val (.ref b12), .unset, .unset] [])) := K17.trans (by
    show Steps p.tables e below (T16.setTop (mkF m 57 #[.val (.int p0), .val (.int p1), .val (.int p2), .val (.int (((p0 &&& (63 : Int32)) % (63 : Int32)) + (1 : Int32))), .val (.int (((p1 &&& (63 : Int32)) % (63 : Int32)) + (1 : Int32))), .val (.int v2_0), .val (.int v7_0), .unset, .unset, .unset] [(.ref b12)])) _
    refine XS.astore X16.here hx rfl (hb hby at_57) rfl rfl (l' := #[.val (.int p0), .val (.int p1), .val (.int p2), .val (.int (((p0 &&& (63 : Int32)) % (63 : Int32)) + (1 : Int32))), .val (.int (((p1 &&& (63 : Int32)) % (63 : Int32)) + (1 : Int32))), .val (.int v2_0), .val (.int v7_0), .val (.ref b12), .unset, .unset]) rfl ?_
    show Steps p.tables e below (T16.setTop (mkF m 59 #[.val (.int p0), .val (.int p1), .val (.int p2), .val (.int (((p0 &&& (63 : Int32)) % (63 : Int32)) + (1 : Int32))), .val (.int (((p1 &&& (63 : Int32)) % (63 : Int32)) + (1 : Int32))), .val (.int v2_0), .val (.int v7_0), .val (.ref b12), .unset, .unset] [])) _
    exact Steps.refl _)
  have Z_20 : n0 ≤ T16.heap.size := (Nat.le_trans Z_15 Kp16.1)
  obtain ⟨T19, h19, X19, e19, E19, A19, D19, -, st19⟩ := newO X16 hx hZ hown (hw _ (List.mem_of_getElem? (i := 0) rfl)) (hw _ (List.mem_of_getElem? (i := 1) rfl)) (hw _ (List.mem_of_getElem? (i := 2) rfl)) rfl (g := (mkF m 59 #[.val (.int p0), .val (.int p1), .val (.int p2), .val (.int (((p0 &&& (63 : Int32)) % (63 : Int32)) + (1 : Int32))), .val (.int (((p1 &&& (63 : Int32)) % (63 : Int32)) + (1 : Int32))), .val (.int v2_0), .val (.int v7_0), .val (.ref b12), .unset, .unset] [])) rfl (hb hby at_59) (by decide) (by decide)
  obtain ⟨b19, g19⟩ : ∃ z, z = T16.heap.size := ⟨_, rfl⟩
  rw [← g19] at A19 D19 st19
  have ne_b12_b19 : b12 ≠ b19 := Nat.ne_of_lt (Nat.lt_of_lt_of_le Q16_0.lt (Nat.le_of_eq g19.symm))
  have ge_b19 : n0 ≤ b19 := Nat.le_trans Z_20 (Nat.le_of_eq g19.symm)
  have K21 : Steps p.tables e below _ (T19.setTop (mkF m 62 #[.val (.int p0), .val (.int p1), .val (.int p2), .val (.int (((p0 &&& (63 : Int32)) % (63 : Int32)) + (1 : Int32))), .val (.int (((p1 &&& (63 : Int32)) % (63 : Int32)) + (1 : Int32))), .val (.int v2_0), .val (.int v7_0), .val (.ref b12), .unset, .unset] [(.ref b19)])) := K18.trans (st19 _ (Steps.refl _))
  have F19_bits : Fld Z h19 b19 "com/example/relinduct/relinduct/cfa/IntegerType" "bits" "I" (.int (0 : Int32)) := D19 (Or.inr (hw _ (List.mem_of_getElem? (i := 15) rfl))) (ty := .int) (by decide)
  have F19_signed : Fld Z h19 b19 "com/example/relinduct/relinduct/cfa/IntegerType" "signed" "Z" (.int (0 : Int32)) := D19 (Or.inr (hw _ (List.mem_of_getElem? (i := 17) rfl))) (ty := .boolean) (by decide)
  have K22 : Steps p.tables e below _ (T19.setTop (mkF m 67 #[.val (.int p0), .val (.int p1), .val (.int p2), .val (.int (((p0 &&& (63 : Int32)) % (63 : Int32)) + (1 : Int32))), .val (.int (((p1 &&& (63 : Int32)) % (63 : Int32)) + (1 : Int32))), .val (.int v2_0), .val (.int v7_0), .val (.ref b12), .unset, .unset] [(.int v7_0), (.int (((p1 &&& (63 : Int32)) % (63 : Int32)) + (1 : Int32))), (.ref b19), (.ref b19)])) := K21.trans (by
    show Steps p.tables e below (T19.setTop (mkF m 62 #[.val (.int p0), .val (.int p1), .val (.int p2), .val (.int (((p0 &&& (63 : Int32)) % (63 : Int32)) + (1 : Int32))), .val (.int (((p1 &&& (63 : Int32)) % (63 : Int32)) + (1 : Int32))), .val (.int v2_0), .val (.int v7_0), .val (.ref b12), .unset, .unset] [(.ref b19)])) _
    refine XS.dup X19.here hx rfl (hb hby at_62) rfl rfl ?_
    show Steps p.tables e below (T19.setTop (mkF m 63 #[.val (.int p0), .val (.int p1), .val (.int p2), .val (.int (((p0 &&& (63 : Int32)) % (63 : Int32)) + (1 : Int32))), .val (.int (((p1 &&& (63 : Int32)) % (63 : Int32)) + (1 : Int32))), .val (.int v2_0), .val (.int v7_0), .val (.ref b12), .unset, .unset] [(.ref b19), (.ref b19)])) _
    refine XS.iload X19.here hx rfl (hb hby at_63) rfl ?_
    show Steps p.tables e below (T19.setTop (mkF m 65 #[.val (.int p0), .val (.int p1), .val (.int p2), .val (.int (((p0 &&& (63 : Int32)) % (63 : Int32)) + (1 : Int32))), .val (.int (((p1 &&& (63 : Int32)) % (63 : Int32)) + (1 : Int32))), .val (.int v2_0), .val (.int v7_0), .val (.ref b12), .unset, .unset] [(.int (((p1 &&& (63 : Int32)) % (63 : Int32)) + (1 : Int32))), (.ref b19), (.ref b19)])) _
    refine XS.iload X19.here hx rfl (hb hby at_65) rfl ?_
    show Steps p.tables e below (T19.setTop (mkF m 67 #[.val (.int p0), .val (.int p1), .val (.int p2), .val (.int (((p0 &&& (63 : Int32)) % (63 : Int32)) + (1 : Int32))), .val (.int (((p1 &&& (63 : Int32)) % (63 : Int32)) + (1 : Int32))), .val (.int v2_0), .val (.int v7_0), .val (.ref b12), .unset, .unset] [(.int v7_0), (.int (((p1 &&& (63 : Int32)) % (63 : Int32)) + (1 : Int32))), (.ref b19), (.ref b19)])) _
    exact Steps.refl _)
  have Z_23 : n0 ≤ h19.size := (Nat.le_trans Z_20 E19.1)
  obtain ⟨_, _, ⟨T24, L24, k24, n24⟩, -, X24, ⟨Lc24, hQ24, l24, y24, z24⟩, st24⟩ := X19.specialBack hx (y := (⟨"com/example/relinduct/relinduct/cfa/IntegerType", "<init>", "(IZ)V"⟩ : MethodName)) rfl hown (mvT hZ (hw _ (List.mem_of_getElem? (i := 3) rfl))) (mvT hZ (hw _ (List.mem_of_getElem? (i := 4) rfl))) (mvT hZ (hw _ (List.mem_of_getElem? (i := 5) rfl))) (by decide) (backOf (W := 1) (rm1 l Z a0 hw [] b19 (((p1 &&& (63 : Int32)) % (63 : Int32)) + (1 : Int32)) v7_0 (.int (0 : Int32)) (.int (0 : Int32)) h19 n0 Z_23 ge_b19 A19 F19_bits F19_signed) hZ (hw _ (List.mem_of_getElem? (i := 5) rfl)) (hw _ (List.mem_of_getElem? (i := 2) rfl)) (by decide) (by decide)) (g := (mkF m 67 #[.val (.int p0), .val (.int p1), .val (.int p2), .val (.int (((p0 &&& (63 : Int32)) % (63 : Int32)) + (1 : Int32))), .val (.int (((p1 &&& (63 : Int32)) % (63 : Int32)) + (1 : Int32))), .val (.int v2_0), .val (.int v7_0), .val (.ref b12), .unset, .unset] [(.int v7_0), (.int (((p1 &&& (63 : Int32)) % (63 : Int32)) + (1 : Int32))), (.ref b19), (.ref b19)])) rfl (by rw [hml]; rfl) K22 (a := b19) (argsL := [(.int (((p1 &&& (63 : Int32)) % (63 : Int32)) + (1 : Int32))), (.int v7_0)]) (rest := [(.ref b19)]) (lenOf pd_1 rfl) rfl (by show 2 * 0 + _ ≤ _; exact Nat.le_of_eq rfl) (hb hby at_67) (fun _ _ => ⟨rfl, e19, (by decide : 2 + 0 ≤ _), (by decide : 4 + 0 ≤ _)⟩)
  dsimp only [Pt.U, Pt.locs, Pt.cells, Pt.slots] at X24 l24 y24 z24 st24 hQ24
  subst l24 y24 z24
  obtain ⟨rfl, N24, Kp24, Q24_0, Q24_1, Q24_2⟩ := hQ24
  have N24' := Fr.app N16' N24
  have K25 : Steps p.tables e below _ (T24.setTop (mkF m 70 #[.val (.int p0), .val (.int p1), .val (.int p2), .val (.int (((p0 &&& (63 : Int32)) % (63 : Int32)) + (1 : Int32))), .val (.int (((p1 &&& (63 : Int32)) % (63 : Int32)) + (1 : Int32))), .val (.int v2_0), .val (.int v7_0), .val (.ref b12), .unset, .unset] [(.ref b19)])) := st24
  have K26 : Steps p.tables e below _ (T24.setTop (mkF m 75 #[.val (.int p0), .val (.int p1), .val (.int p2), .val (.int (((p0 &&& (63 : Int32)) % (63 : Int32)) + (1 : Int32))), .val (.int (((p1 &&& (63 : Int32)) % (63 : Int32)) + (1 : Int32))), .val (.int v2_0), .val (.int v7_0), .val (.ref b12), .val (.ref b19), .unset] [(.int v2_0), (.int (((p0 &&& (63 : Int32)) % (63 : Int32)) + (1 : Int32)))])) := K25.trans (by
    show Steps p.tables e below (T24.setTop (mkF m 70 #[.val (.int p0), .val (.int p1), .val (.int p2), .val (.int (((p0 &&& (63 : Int32)) % (63 : Int32)) + (1 : Int32))), .val (.int (((p1 &&& (63 : Int32)) % (63 : Int32)) + (1 : Int32))), .val (.int v2_0), .val (.int v7_0), .val (.ref b12), .unset, .unset] [(.ref b19)])) _
    refine XS.astore X24.here hx rfl (hb hby at_70) rfl rfl (l' := #[.val (.int p0), .val (.int p1), .val (.int p2), .val (.int (((p0 &&& (63 : Int32)) % (63 : Int32)) + (1 : Int32))), .val (.int (((p1 &&& (63 : Int32)) % (63 : Int32)) + (1 : Int32))), .val (.int v2_0), .val (.int v7_0), .val (.ref b12), .val (.ref b19), .unset]) rfl ?_
    show Steps p.tables e below (T24.setTop (mkF m 72 #[.val (.int p0), .val (.int p1), .val (.int p2), .val (.int (((p0 &&& (63 : Int32)) % (63 : Int32)) + (1 : Int32))), .val (.int (((p1 &&& (63 : Int32)) % (63 : Int32)) + (1 : Int32))), .val (.int v2_0), .val (.int v7_0), .val (.ref b12), .val (.ref b19), .unset] [])) _
    refine XS.iloadN X24.here hx rfl (hb hby at_72) rfl ?_
    show Steps p.tables e below (T24.setTop (mkF m 73 #[.val (.int p0), .val (.int p1), .val (.int p2), .val (.int (((p0 &&& (63 : Int32)) % (63 : Int32)) + (1 : Int32))), .val (.int (((p1 &&& (63 : Int32)) % (63 : Int32)) + (1 : Int32))), .val (.int v2_0), .val (.int v7_0), .val (.ref b12), .val (.ref b19), .unset] [(.int (((p0 &&& (63 : Int32)) % (63 : Int32)) + (1 : Int32)))])) _
    refine XS.iload X24.here hx rfl (hb hby at_73) rfl ?_
    show Steps p.tables e below (T24.setTop (mkF m 75 #[.val (.int p0), .val (.int p1), .val (.int p2), .val (.int (((p0 &&& (63 : Int32)) % (63 : Int32)) + (1 : Int32))), .val (.int (((p1 &&& (63 : Int32)) % (63 : Int32)) + (1 : Int32))), .val (.int v2_0), .val (.int v7_0), .val (.ref b12), .val (.ref b19), .unset] [(.int v2_0), (.int (((p0 &&& (63 : Int32)) % (63 : Int32)) + (1 : Int32)))])) _
    exact Steps.refl _)
  have Z_27 : n0 ≤ T24.heap.size := (Nat.le_trans Z_23 Kp24.1)
  obtain ⟨_, _, ⟨T28, L28, k28, n28⟩, -, X28, ⟨Lc28, hQ28, l28, y28, z28⟩, st28⟩ := Jvm.LawKit.callS X24 hx (y := (⟨"com/example/relinduct/relinduct/cfa/IntegerTypeHoldsPinLaw", "lo", "(IZ)J"⟩ : MethodName)) hown (mvT hZ (hw _ (List.mem_of_getElem? (i := 18) rfl))) (mvT hZ (hw _ (List.mem_of_getElem? (i := 19) rfl))) (mvT hZ (hw _ (List.mem_of_getElem? (i := 20) rfl))) (mvT hZ (hw _ (List.mem_of_getElem? (i := 21) rfl))) (by decide) (backOf (W := 0) (rm4 l Z a0 hw [] (((p0 &&& (63 : Int32)) % (63 : Int32)) + (1 : Int32)) v2_0 T24.heap n0 Z_27 ) hZ (hw _ (List.mem_of_getElem? (i := 21) rfl)) (hw _ (List.mem_of_getElem? (i := 20) rfl)) (by decide) (by decide)) (g := (mkF m 75 #[.val (.int p0), .val (.int p1), .val (.int p2), .val (.int (((p0 &&& (63 : Int32)) % (63 : Int32)) + (1 : Int32))), .val (.int (((p1 &&& (63 : Int32)) % (63 : Int32)) + (1 : Int32))), .val (.int v2_0), .val (.int v7_0), .val (.ref b12), .val (.ref b19), .unset] [(.int v2_0), (.int (((p0 &&& (63 : Int32)) % (63 : Int32)) + (1 : Int32)))])) rfl (by rw [hml]; rfl) (argsL := [(.int (((p0 &&& (63 : Int32)) % (63 : Int32)) + (1 : Int32))), (.int v2_0)]) (rest := []) (lenOf pd_2 rfl) rfl (by show 2 * 0 + _ ≤ _; exact Nat.le_of_eq rfl) (hb hby at_75) (fun _ _ => ⟨rfl, rfl, (by decide : 2 + 0 ≤ _), (by decide : 4 + 0 ≤ _)⟩)
  dsimp only [Pt.U, Pt.locs, Pt.cells, Pt.slots] at X28 l28 y28 z28 st28 hQ28
  subst l28 y28 z28
  obtain ⟨rfl, N28, eh28⟩ := hQ28
  have N28' := Fr.app N24' N28
  have K30 : Steps p.tables e below _ (T28.setTop (mkF m 78 #[.val (.int p0), .val (.int p1), .val (.int p2), .val (.int (((p0 &&& (63 : Int32)) % (63 : Int32)) + (1 : Int32))), .val (.int (((p1 &&& (63 : Int32)) % (63 : Int32)) + (1 : Int32))), .val (.int v2_0), .val (.int v7_0), .val (.ref b12), .val (.ref b19), .unset] [(.long (if v2_0 = (0 : Int32) then (0 : Int64) else (-((1 : Int64) <<< (((((p0 &&& (63 : Int32)) % (63 : Int32)) + (1 : Int32)) - (1 : Int32)) &&& 0x3f).toInt64))))])) := K26.trans (st28 _ (Steps.refl _))
  obtain ⟨r29, hr29⟩ : ∃ z : Int64, (if v2_0 = (0 : Int32) then (0 : Int64) else (-((1 : Int64) <<< (((((p0 &&& (63 : Int32)) % (63 : Int32)) + (1 : Int32)) - (1 : Int32)) &&& 0x3f).toInt64))) = z := ⟨_, rfl⟩
  rw [hr29] at K30
  have K31 : Steps p.tables e below _ (T28.setTop (mkF m 82 #[.val (.int p0), .val (.int p1), .val (.int p2), .val (.int (((p0 &&& (63 : Int32)) % (63 : Int32)) + (1 : Int32))), .val (.int (((p1 &&& (63 : Int32)) % (63 : Int32)) + (1 : Int32))), .val (.int v2_0), .val (.int v7_0), .val (.ref b12), .val (.ref b19), .unset] [(.int v7_0), (.int (((p1 &&& (63 : Int32)) % (63 : Int32)) + (1 : Int32))), (.long r29)])) := K30.trans (by
    show Steps p.tables e below (T28.setTop (mkF m 78 #[.val (.int p0), .val (.int p1), .val (.int p2), .val (.int (((p0 &&& (63 : Int32)) % (63 : Int32)) + (1 : Int32))), .val (.int (((p1 &&& (63 : Int32)) % (63 : Int32)) + (1 : Int32))), .val (.int v2_0), .val (.int v7_0), .val (.ref b12), .val (.ref b19), .unset] [(.long r29)])) _
    refine XS.iload X28.here hx rfl (hb hby at_78) rfl ?_
    show Steps p.tables e below (T28.setTop (mkF m 80 #[.val (.int p0), .val (.int p1), .val (.int p2), .val (.int (((p0 &&& (63 : Int32)) % (63 : Int32)) + (1 : Int32))), .val (.int (((p1 &&& (63 : Int32)) % (63 : Int32)) + (1 : Int32))), .val (.int v2_0), .val (.int v7_0), .val (.ref b12), .val (.ref b19), .unset] [(.int (((p1 &&& (63 : Int32)) % (63 : Int32)) + (1 : Int32))), (.long r29)])) _
    refine XS.iload X28.here hx rfl (hb hby at_80) rfl ?_
    show Steps p.tables e below (T28.setTop (mkF m 82 #[.val (.int p0), .val (.int p1), .val (.int p2), .val (.int (((p0 &&& (63 : Int32)) % (63 : Int32)) + (1 : Int32))), .val (.int (((p1 &&& (63 : Int32)) % (63 : Int32)) + (1 : Int32))), .val (.int v2_0), .val (.int v7_0), .val (.ref b12), .val (.ref b19), .unset] [(.int v7_0), (.int (((p1 &&& (63 : Int32)) % (63 : Int32)) + (1 : Int32))), (.long r29)])) _
    exact Steps.refl _)
  obtain ⟨_, _, ⟨T32, L32, k32, n32⟩, -, X32, ⟨Lc32, hQ32, l32, y32, z32⟩, st32⟩ := Jvm.LawKit.callS X28 hx (y := (⟨"com/example/relinduct/relinduct/cfa/IntegerTypeHoldsPinLaw", "lo", "(IZ)J"⟩ : MethodName)) hown (mvT hZ (hw _ (List.mem_of_getElem? (i := 18) rfl))) (mvT hZ (hw _ (List.mem_of_getElem? (i := 19) rfl))) (mvT hZ (hw _ (List.mem_of_getElem? (i := 20) rfl))) (mvT hZ (hw _ (List.mem_of_getElem? (i := 21) rfl))) (by decide) (backOf (W := 2) (rm4 l Z a0 hw [] (((p1 &&& (63 : Int32)) % (63 : Int32)) + (1 : Int32)) v7_0 T24.heap n0 Z_27 ) hZ (hw _ (List.mem_of_getElem? (i := 21) rfl)) (hw _ (List.mem_of_getElem? (i := 20) rfl)) (by decide) (by decide)) (g := (mkF m 82 #[.val (.int p0), .val (.int p1), .val (.int p2), .val (.int (((p0 &&& (63 : Int32)) % (63 : Int32)) + (1 : Int32))), .val (.int (((p1 &&& (63 : Int32)) % (63 : Int32)) + (1 : Int32))), .val (.int v2_0), .val (.int v7_0), .val (.ref b12), .val (.ref b19), .unset] [(.int v7_0), (.int (((p1 &&& (63 : Int32)) % (63 : Int32)) + (1 : Int32))), (.long r29)])) rfl (by rw [hml]; rfl) (argsL := [(.int (((p1 &&& (63 : Int32)) % (63 : Int32)) + (1 : Int32))), (.int v7_0)]) (rest := [(.long r29)]) (lenOf pd_2 rfl) rfl (by show 2 * 0 + _ ≤ _; exact Nat.le_of_eq rfl) (hb hby at_82) (fun _ _ => ⟨rfl, eh28, (by decide : 2 + 0 ≤ _), (by decide : 4 + 0 ≤ _)⟩)
  dsimp only [Pt.U, Pt.locs, Pt.cells, Pt.slots] at X32 l32 y32 z32 st32 hQ32
  subst l32 y32 z32
  obtain ⟨rfl, N32, eh32⟩ := hQ32
  have N32' := Fr.app N28' N32
  have K34 : Steps p.tables e below _ (T32.setTop (mkF m 85 #[.val (.int p0), .val (.int p1), .val (.int p2), .val (.int (((p0 &&& (63 : Int32)) % (63 : Int32)) + (1 : Int32))), .val (.int (((p1 &&& (63 : Int32)) % (63 : Int32)) + (1 : Int32))), .val (.int v2_0), .val (.int v7_0), .val (.ref b12), .val (.ref b19), .unset] [(.long (if v7_0 = (0 : Int32) then (0 : Int64) else (-((1 : Int64) <<< (((((p1 &&& (63 : Int32)) % (63 : Int32)) + (1 : Int32)) - (1 : Int32)) &&& 0x3f).toInt64)))), (.long r29)])) := K31.trans (st32 _ (Steps.refl _))
  obtain ⟨r33, hr33⟩ : ∃ z : Int64, (if v7_0 = (0 : Int32) then (0 : Int64) else (-((1 : Int64) <<< (((((p1 &&& (63 : Int32)) % (63 : Int32)) + (1 : Int32)) - (1 : Int32)) &&& 0x3f).toInt64))) = z := ⟨_, rfl⟩
  rw [hr33] at K34
  have K35 : Steps p.tables e below _ (T32.setTop (mkF m 86 #[.val (.int p0), .val (.int p1), .val (.int p2), .val (.int (((p0 &&& (63 : Int32)) % (63 : Int32)) + (1 : Int32))), .val (.int (((p1 &&& (63 : Int32)) % (63 : Int32)) + (1 : Int32))), .val (.int v2_0), .val (.int v7_0), .val (.ref b12), .val (.ref b19), .unset] [(.int (lcmpW r29 r33))])) := K34.trans (by
    show Steps p.tables e below (T32.setTop (mkF m 85 #[.val (.int p0), .val (.int p1), .val (.int p2), .val (.int (((p0 &&& (63 : Int32)) % (63 : Int32)) + (1 : Int32))), .val (.int (((p1 &&& (63 : Int32)) % (63 : Int32)) + (1 : Int32))), .val (.int v2_0), .val (.int v7_0), .val (.ref b12), .val (.ref b19), .unset] [(.long r33), (.long r29)])) _
    refine XS.lcmp X32.here hx rfl (hb hby at_85) rfl ?_
    show Steps p.tables e below (T32.setTop (mkF m 86 #[.val (.int p0), .val (.int p1), .val (.int p2), .val (.int (((p0 &&& (63 : Int32)) % (63 : Int32)) + (1 : Int32))), .val (.int (((p1 &&& (63 : Int32)) % (63 : Int32)) + (1 : Int32))), .val (.int v2_0), .val (.int v7_0), .val (.ref b12), .val (.ref b19), .unset] [(.int (lcmpW r29 r33))])) _
    exact Steps.refl _)
  obtain ⟨T36, L36, v36_0, X36, e36, N36, hv36_0, S36⟩ : ∃ (T36 : State) (L36 : List Loc) (v36_0 : Int32), Stand p l e room_1 s m #[(.int p0), (.int p1), (.int p2)] below meth c T36 L36 2 4 ∧ T36.heap = T24.heap ∧ Fr n0 L36 ∧ (if r33 < r29 then (0 : Int32) else (if (if v2_0 = (0 : Int32) then (((1 : Int64) <<< ((((p0 &&& (63 : Int32)) % (63 : Int32)) + (1 : Int32)) &&& 0x3f).toInt64) - (1 : Int64)) else (((1 : Int64) <<< (((((p0 &&& (63 : Int32)) % (63 : Int32)) + (1 : Int32)) - (1 : Int32)) &&& 0x3f).toInt64) - (1 : Int64))) < (if v7_0 = (0 : Int32) then (((1 : Int64) <<< ((((p1 &&& (63 : Int32)) % (63 : Int32)) + (1 : Int32)) &&& 0x3f).toInt64) - (1 : Int64)) else (((1 : Int64) <<< (((((p1 &&& (63 : Int32)) % (63 : Int32)) + (1 : Int32)) - (1 : Int32)) &&& 0x3f).toInt64) - (1 : Int64))) then (0 : Int32) else (1 : Int32))) = v36_0 ∧ Steps p.tables e below (T32.setTop (mkF m 86 #[.val (.int p0), .val (.int p1), .val (.int p2), .val (.int (((p0 &&& (63 : Int32)) % (63 : Int32)) + (1 : Int32))), .val (.int (((p1 &&& (63 : Int32)) % (63 : Int32)) + (1 : Int32))), .val (.int v2_0), .val (.int v7_0), .val (.ref b12), .val (.ref b19), .unset] [(.int (lcmpW r29 r33))])) (T36.setTop (mkF m 111 #[.val (.int p0), .val (.int p1), .val (.int p2), .val (.int (((p0 &&& (63 : Int32)) % (63 : Int32)) + (1 : Int32))), .val (.int (((p1 &&& (63 : Int32)) % (63 : Int32)) + (1 : Int32))), .val (.int v2_0), .val (.int v7_0), .val (.ref b12), .val (.ref b19), .unset] [(.int v36_0)])) := by
    have R36 : Steps p.tables e below (T32.setTop (mkF m 86 #[.val (.int p0), .val (.int p1), .val (.int p2), .val (.int (((p0 &&& (63 : Int32)) % (63 : Int32)) + (1 : Int32))), .val (.int (((p1 &&& (63 : Int32)) % (63 : Int32)) + (1 : Int32))), .val (.int v2_0), .val (.int v7_0), .val (.ref b12), .val (.ref b19), .unset] [(.int (lcmpW r29 r33))])) (T32.setTop (mkF m 86 #[.val (.int p0), .val (.int p1), .val (.int p2), .val (.int (((p0 &&& (63 : Int32)) % (63 : Int32)) + (1 : Int32))), .val (.int (((p1 &&& (63 : Int32)) % (63 : Int32)) + (1 : Int32))), .val (.int v2_0), .val (.int v7_0), .val (.ref b12), .val (.ref b19), .unset] [(.int (lcmpW r29 r33))])) := Steps.refl _
    by_cases hc86 : r33 < r29
    · have K37 : Steps p.tables e below _ (T32.setTop (mkF m 111 #[.val (.int p0), .val (.int p1), .val (.int p2), .val (.int (((p0 &&& (63 : Int32)) % (63 : Int32)) + (1 : Int32))), .val (.int (((p1 &&& (63 : Int32)) % (63 : Int32)) + (1 : Int32))), .val (.int v2_0), .val (.int v7_0), .val (.ref b12), .val (.ref b19), .unset] [(.int (0 : Int32))])) := R36.trans (by
        show Steps p.tables e below (T32.setTop (mkF m 86 #[.val (.int p0), .val (.int p1), .val (.int p2), .val (.int (((p0 &&& (63 : Int32)) % (63 : Int32)) + (1 : Int32))), .val (.int (((p1 &&& (63 : Int32)) % (63 : Int32)) + (1 : Int32))), .val (.int v2_0), .val (.int v7_0), .val (.ref b12), .val (.ref b19), .unset] [(.int (lcmpW r29 r33))])) _
        refine XS.ifYes X32.here hx rfl (pc0 := 86) (pc' := 110) rfl (hb hby at_86) rfl ((if0 _ _).trans (tlt ((lw_gt r29 r33).mpr hc86)).2.2.1) (by decide) (by decide) ?_
        show Steps p.tables e below (T32.setTop (mkF m 110 #[.val (.int p0), .val (.int p1), .val (.int p2), .val (.int (((p0 &&& (63 : Int32)) % (63 : Int32)) + (1 : Int32))), .val (.int (((p1 &&& (63 : Int32)) % (63 : Int32)) + (1 : Int32))), .val (.int v2_0), .val (.int v7_0), .val (.ref b12), .val (.ref b19), .unset] [])) _
        refine XS.iconst X32.here hx rfl (hb hby at_110) ?_
        show Steps p.tables e below (T32.setTop (mkF m 111 #[.val (.int p0), .val (.int p1), .val (.int p2), .val (.int (((p0 &&& (63 : Int32)) % (63 : Int32)) + (1 : Int32))), .val (.int (((p1 &&& (63 : Int32)) % (63 : Int32)) + (1 : Int32))), .val (.int v2_0), .val (.int v7_0), .val (.ref b12), .val (.ref b19), .unset] [(.int (0 : Int32))])) _
        exact Steps.refl _)
      exact ⟨T32, _, (0 : Int32), X32, eh32, N32', (by rw [if_pos hc86]), K37⟩
    · have K38 : Steps p.tables e below _ (T32.setTop (mkF m 93 #[.val (.int p0), .val (.int p1), .val (.int p2), .val (.int (((p0 &&& (63 : Int32)) % (63 : Int32)) + (1 : Int32))), .val (.int (((p1 &&& (63 : Int32)) % (63 : Int32)) + (1 : Int32))), .val (.int v2_0), .val (.int v7_0), .val (.ref b12), .val (.ref b19), .unset] [(.int v7_0), (.int (((p1 &&& (63 : Int32)) % (63 : Int32)) + (1 : Int32)))])) := R36.trans (by
        show Steps p.tables e below (T32.setTop (mkF m 86 #[.val (.int p0), .val (.int p1), .val (.int p2), .val (.int (((p0 &&& (63 : Int32)) % (63 : Int32)) + (1 : Int32))), .val (.int (((p1 &&& (63 : Int32)) % (63 : Int32)) + (1 : Int32))), .val (.int v2_0), .val (.int v7_0), .val (.ref b12), .val (.ref b19), .unset] [(.int (lcmpW r29 r33))])) _
        refine XS.ifNo X32.here hx rfl (hb hby at_86) rfl ((if0 _ _).trans (flt (fun z => hc86 ((lw_gt r29 r33).mp z))).2.2.1) ?_
        show Steps p.tables e below (T32.setTop (mkF m 89 #[.val (.int p0), .val (.int p1), .val (.int p2), .val (.int (((p0 &&& (63 : Int32)) % (63 : Int32)) + (1 : Int32))), .val (.int (((p1 &&& (63 : Int32)) % (63 : Int32)) + (1 : Int32))), .val (.int v2_0), .val (.int v7_0), .val (.ref b12), .val (.ref b19), .unset] [])) _
        refine XS.iload X32.here hx rfl (hb hby at_89) rfl ?_
        show Steps p.tables e below (T32.setTop (mkF m 91 #[.val (.int p0), .val (.int p1), .val (.int p2), .val (.int (((p0 &&& (63 : Int32)) % (63 : Int32)) + (1 : Int32))), .val (.int (((p1 &&& (63 : Int32)) % (63 : Int32)) + (1 : Int32))), .val (.int v2_0), .val (.int v7_0), .val (.ref b12), .val (.ref b19), .unset] [(.int (((p1 &&& (63 : Int32)) % (63 : Int32)) + (1 : Int32)))])) _
        refine XS.iload X32.here hx rfl (hb hby at_91) rfl ?_
        show Steps p.tables e below (T32.setTop (mkF m 93 #[.val (.int p0), .val (.int p1), .val (.int p2), .val (.int (((p0 &&& (63 : Int32)) % (63 : Int32)) + (1 : Int32))), .val (.int (((p1 &&& (63 : Int32)) % (63 : Int32)) + (1 : Int32))), .val (.int v2_0), .val (.int v7_0), .val (.ref b12), .val (.ref b19), .unset] [(.int v7_0), (.int (((p1 &&& (63 : Int32)) % (63 : Int32)) + (1 : Int32)))])) _
        exact Steps.refl _)
      obtain ⟨_, _, ⟨T39, L39, k39, n39⟩, -, X39, ⟨Lc39, hQ39, l39, y39, z39⟩, st39⟩ := Jvm.LawKit.callS X32 hx (y := (⟨"com/example/relinduct/relinduct/cfa/IntegerTypeHoldsPinLaw", "hi", "(IZ)J"⟩ : MethodName)) hown (mvT hZ (hw _ (List.mem_of_getElem? (i := 27) rfl))) (mvT hZ (hw _ (List.mem_of_getElem? (i := 28) rfl))) (mvT hZ (hw _ (List.mem_of_getElem? (i := 20) rfl))) (mvT hZ (hw _ (List.mem_of_getElem? (i := 29) rfl))) (by decide) (backOf (W := 0) (rm6 l Z a0 hw [] (((p1 &&& (63 : Int32)) % (63 : Int32)) + (1 : Int32)) v7_0 T24.heap n0 Z_27 ) hZ (hw _ (List.mem_of_getElem? (i := 29) rfl)) (hw _ (List.mem_of_getElem? (i := 20) rfl)) (by decide) (by decide)) (g := (mkF m 93 #[.val (.int p0), .val (.int p1), .val (.int p2), .val (.int (((p0 &&& (63 : Int32)) % (63 : Int32)) + (1 : Int32))), .val (.int (((p1 &&& (63 : Int32)) % (63 : Int32)) + (1 : Int32))), .val (.int v2_0), .val (.int v7_0), .val (.ref b12), .val (.ref b19), .unset] [(.int v7_0), (.int (((p1 &&& (63 : Int32)) % (63 : Int32)) + (1 : Int32)))])) rfl (by rw [hml]; rfl) (argsL := [(.int (((p1 &&& (63 : Int32)) % (63 : Int32)) + (1 : Int32))), (.int v7_0)]) (rest := []) (lenOf pd_2 rfl) rfl (by show 2 * 0 + _ ≤ _; exact Nat.le_of_eq rfl) (hb hby at_93) (fun _ _ => ⟨rfl, eh32, (by decide : 2 + 0 ≤ _), (by decide : 4 + 0 ≤ _)⟩)
      dsimp only [Pt.U, Pt.locs, Pt.cells, Pt.slots] at X39 l39 y39 z39 st39 hQ39
      subst l39 y39 z39
      obtain ⟨rfl, N39, eh39⟩ := hQ39
      have N39' := Fr.app N32' N39
      have K41 : Steps p.tables e below _ (T39.setTop (mkF m 96 #[.val (.int p0), .val (.int p1), .val (.int p2), .val (.int (((p0 &&& (63 : Int32)) % (63 : Int32)) + (1 : Int32))), .val (.int (((p1 &&& (63 : Int32)) % (63 : Int32)) + (1 : Int32))), .val (.int v2_0), .val (.int v7_0), .val (.ref b12), .val (.ref b19), .unset] [(.long (if v7_0 = (0 : Int32) then (((1 : Int64) <<< ((((p1 &&& (63 : Int32)) % (63 : Int32)) + (1 : Int32)) &&& 0x3f).toInt64) - (1 : Int64)) else (((1 : Int64) <<< (((((p1 &&& (63 : Int32)) % (63 : Int32)) + (1 : Int32)) - (1 : Int32)) &&& 0x3f).toInt64) - (1 : Int64))))])) := K38.trans (st39 _ (Steps.refl _))
      obtain ⟨r40, hr40⟩ : ∃ z : Int64, (if v7_0 = (0 : Int32) then (((1 : Int64) <<< ((((p1 &&& (63 : Int32)) % (63 : Int32)) + (1 : Int32)) &&& 0x3f).toInt64) - (1 : Int64)) else (((1 : Int64) <<< (((((p1 &&& (63 : Int32)) % (63 : Int32)) + (1 : Int32)) - (1 : Int32)) &&& 0x3f).toInt64) - (1 : Int64))) = z := ⟨_, rfl⟩
      rw [hr40] at K41
      have K42 : Steps p.tables e below _ (T39.setTop (mkF m 99 #[.val (.int p0), .val (.int p1), .val (.int p2), .val (.int (((p0 &&& (63 : Int32)) % (63 : Int32)) + (1 : Int32))), .val (.int (((p1 &&& (63 : Int32)) % (63 : Int32)) + (1 : Int32))), .val (.int v2_0), .val (.int v7_0), .val (.ref b12), .val (.ref b19), .unset] [(.int v2_0), (.int (((p0 &&& (63 : Int32)) % (63 : Int32)) + (1 : Int32))), (.long r40)])) := K41.trans (by
        show Steps p.tables e below (T39.setTop (mkF m 96 #[.val (.int p0), .val (.int p1), .val (.int p2), .val (.int (((p0 &&& (63 : Int32)) % (63 : Int32)) + (1 : Int32))), .val (.int (((p1 &&& (63 : Int32)) % (63 : Int32)) + (1 : Int32))), .val (.int v2_0), .val (.int v7_0), .val (.ref b12), .val (.ref b19), .unset] [(.long r40)])) _
        refine XS.iloadN X39.here hx rfl (hb hby at_96) rfl ?_
        show Steps p.tables e below (T39.setTop (mkF m 97 #[.val (.int p0), .val (.int p1), .val (.int p2), .val (.int (((p0 &&& (63 : Int32)) % (63 : Int32)) + (1 : Int32))), .val (.int (((p1 &&& (63 : Int32)) % (63 : Int32)) + (1 : Int32))), .val (.int v2_0), .val (.int v7_0), .val (.ref b12), .val (.ref b19), .unset] [(.int (((p0 &&& (63 : Int32)) % (63 : Int32)) + (1 : Int32))), (.long r40)])) _
        refine XS.iload X39.here hx rfl (hb hby at_97) rfl ?_
        show Steps p.tables e below (T39.setTop (mkF m 99 #[.val (.int p0), .val (.int p1), .val (.int p2), .val (.int (((p0 &&& (63 : Int32)) % (63 : Int32)) + (1 : Int32))), .val (.int (((p1 &&& (63 : Int32)) % (63 : Int32)) + (1 : Int32))), .val (.int v2_0), .val (.int v7_0), .val (.ref b12), .val (.ref b19), .unset] [(.int v2_0), (.int (((p0 &&& (63 : Int32)) % (63 : Int32)) + (1 : Int32))), (.long r40)])) _
        exact Steps.refl _)
      obtain ⟨_, _, ⟨T43, L43, k43, n43⟩, -, X43, ⟨Lc43, hQ43, l43, y43, z43⟩, st43⟩ := Jvm.LawKit.callS X39 hx (y := (⟨"com/example/relinduct/relinduct/cfa/IntegerTypeHoldsPinLaw", "hi", "(IZ)J"⟩ : MethodName)) hown (mvT hZ (hw _ (List.mem_of_getElem? (i := 27) rfl))) (mvT hZ (hw _ (List.mem_of_getElem? (i := 28) rfl))) (mvT hZ (hw _ (List.mem_of_getElem? (i := 20) rfl))) (mvT hZ (hw _ (List.mem_of_getElem? (i := 29) rfl))) (by decide) (backOf (W := 2) (rm6 l Z a0 hw [] (((p0 &&& (63 : Int32)) % (63 : Int32)) + (1 : Int32)) v2_0 T24.heap n0 Z_27 ) hZ (hw _ (List.mem_of_getElem? (i := 29) rfl)) (hw _ (List.mem_of_getElem? (i := 20) rfl)) (by decide) (by decide)) (g := (mkF m 99 #[.val (.int p0), .val (.int p1), .val (.int p2), .val (.int (((p0 &&& (63 : Int32)) % (63 : Int32)) + (1 : Int32))), .val (.int (((p1 &&& (63 : Int32)) % (63 : Int32)) + (1 : Int32))), .val (.int v2_0), .val (.int v7_0), .val (.ref b12), .val (.ref b19), .unset] [(.int v2_0), (.int (((p0 &&& (63 : Int32)) % (63 : Int32)) + (1 : Int32))), (.long r40)])) rfl (by rw [hml]; rfl) (argsL := [(.int (((p0 &&& (63 : Int32)) % (63 : Int32)) + (1 : Int32))), (.int v2_0)]) (rest := [(.long r40)]) (lenOf pd_2 rfl) rfl (by show 2 * 0 + _ ≤ _; exact Nat.le_of_eq rfl) (hb hby at_99) (fun _ _ => ⟨rfl, eh39, (by decide : 2 + 0 ≤ _), (by decide : 4 + 0 ≤ _)⟩)
      dsimp only [Pt.U, Pt.locs, Pt.cells, Pt.slots] at X43 l43 y43 z43 st43 hQ43
      subst l43 y43 z43
      obtain ⟨rfl, N43, eh43⟩ := hQ43
      have N43' := Fr.app N39' N43
      have K45 : Steps p.tables e below _ (T43.setTop (mkF m 102 #[.val (.int p0), .val (.int p1), .val (.int p2), .val (.int (((p0 &&& (63 : Int32)) % (63 : Int32)) + (1 : Int32))), .val (.int (((p1 &&& (63 : Int32)) % (63 : Int32)) + (1 : Int32))), .val (.int v2_0), .val (.int v7_0), .val (.ref b12), .val (.ref b19), .unset] [(.long (if v2_0 = (0 : Int32) then (((1 : Int64) <<< ((((p0 &&& (63 : Int32)) % (63 : Int32)) + (1 : Int32)) &&& 0x3f).toInt64) - (1 : Int64)) else (((1 : Int64) <<< (((((p0 &&& (63 : Int32)) % (63 : Int32)) + (1 : Int32)) - (1 : Int32)) &&& 0x3f).toInt64) - (1 : Int64)))), (.long r40)])) := K42.trans (st43 _ (Steps.refl _))
      obtain ⟨r44, hr44⟩ : ∃ z : Int64, (if v2_0 = (0 : Int32) then (((1 : Int64) <<< ((((p0 &&& (63 : Int32)) % (63 : Int32)) + (1 : Int32)) &&& 0x3f).toInt64) - (1 : Int64)) else (((1 : Int64) <<< (((((p0 &&& (63 : Int32)) % (63 : Int32)) + (1 : Int32)) - (1 : Int32)) &&& 0x3f).toInt64) - (1 : Int64))) = z := ⟨_, rfl⟩
      rw [hr44] at K45
      have K46 : Steps p.tables e below _ (T43.setTop (mkF m 103 #[.val (.int p0), .val (.int p1), .val (.int p2), .val (.int (((p0 &&& (63 : Int32)) % (63 : Int32)) + (1 : Int32))), .val (.int (((p1 &&& (63 : Int32)) % (63 : Int32)) + (1 : Int32))), .val (.int v2_0), .val (.int v7_0), .val (.ref b12), .val (.ref b19), .unset] [(.int (lcmpW r40 r44))])) := K45.trans (by
        show Steps p.tables e below (T43.setTop (mkF m 102 #[.val (.int p0), .val (.int p1), .val (.int p2), .val (.int (((p0 &&& (63 : Int32)) % (63 : Int32)) + (1 : Int32))), .val (.int (((p1 &&& (63 : Int32)) % (63 : Int32)) + (1 : Int32))), .val (.int v2_0), .val (.int v7_0), .val (.ref b12), .val (.ref b19), .unset] [(.long r44), (.long r40)])) _
        refine XS.lcmp X43.here hx rfl (hb hby at_102) rfl ?_
        show Steps p.tables e below (T43.setTop (mkF m 103 #[.val (.int p0), .val (.int p1), .val (.int p2), .val (.int (((p0 &&& (63 : Int32)) % (63 : Int32)) + (1 : Int32))), .val (.int (((p1 &&& (63 : Int32)) % (63 : Int32)) + (1 : Int32))), .val (.int v2_0), .val (.int v7_0), .val (.ref b12), .val (.ref b19), .unset] [(.int (lcmpW r40 r44))])) _
        exact Steps.refl _)
      by_cases hc103 : r44 < r40
      · have K47 : Steps p.tables e below _ (T43.setTop (mkF m 111 #[.val (.int p0), .val (.int p1), .val (.int p2), .val (.int (((p0 &&& (63 : Int32)) % (63 : Int32)) + (1 : Int32))), .val (.int (((p1 &&& (63 : Int32)) % (63 : Int32)) + (1 : Int32))), .val (.int v2_0), .val (.int v7_0), .val (.ref b12), .val (.ref b19), .unset] [(.int (0 : Int32))])) := K46.trans (by
          show Steps p.tables e below (T43.setTop (mkF m 103 #[.val (.int p0), .val (.int p1), .val (.int p2), .val (.int (((p0 &&& (63 : Int32)) % (63 : Int32)) + (1 : Int32))), .val (.int (((p1 &&& (63 : Int32)) % (63 : Int32)) + (1 : Int32))), .val (.int v2_0), .val (.int v7_0), .val (.ref b12), .val (.ref b19), .unset] [(.int (lcmpW r40 r44))])) _
          refine XS.ifYes X43.here hx rfl (pc0 := 103) (pc' := 110) rfl (hb hby at_103) rfl ((if0 _ _).trans (tlt ((lw_gt r40 r44).mpr hc103)).2.2.1) (by decide) (by decide) ?_
          show Steps p.tables e below (T43.setTop (mkF m 110 #[.val (.int p0), .val (.int p1), .val (.int p2), .val (.int (((p0 &&& (63 : Int32)) % (63 : Int32)) + (1 : Int32))), .val (.int (((p1 &&& (63 : Int32)) % (63 : Int32)) + (1 : Int32))), .val (.int v2_0), .val (.int v7_0), .val (.ref b12), .val (.ref b19), .unset] [])) _
          refine XS.iconst X43.here hx rfl (hb hby at_110) ?_
          show Steps p.tables e below (T43.setTop (mkF m 111 #[.val (.int p0), .val (.int p1), .val (.int p2), .val (.int (((p0 &&& (63 : Int32)) % (63 : Int32)) + (1 : Int32))), .val (.int (((p1 &&& (63 : Int32)) % (63 : Int32)) + (1 : Int32))), .val (.int v2_0), .val (.int v7_0), .val (.ref b12), .val (.ref b19), .unset] [(.int (0 : Int32))])) _
          exact Steps.refl _)
        subst hr44
        subst hr40
        exact ⟨T43, _, (0 : Int32), X43, eh43, N43', (by rw [if_neg hc86, if_pos hc103]), K47⟩
      · have K48 : Steps p.tables e below _ (T43.setTop (mkF m 111 #[.val (.int p0), .val (.int p1), .val (.int p2), .val (.int (((p0 &&& (63 : Int32)) % (63 : Int32)) + (1 : Int32))), .val (.int (((p1 &&& (63 : Int32)) % (63 : Int32)) + (1 : Int32))), .val (.int v2_0), .val (.int v7_0), .val (.ref b12), .val (.ref b19), .unset] [(.int (1 : Int32))])) := K46.trans (by
          show Steps p.tables e below (T43.setTop (mkF m 103 #[.val (.int p0), .val (.int p1), .val (.int p2), .val (.int (((p0 &&& (63 : Int32)) % (63 : Int32)) + (1 : Int32))), .val (.int (((p1 &&& (63 : Int32)) % (63 : Int32)) + (1 : Int32))), .val (.int v2_0), .val (.int v7_0), .val (.ref b12), .val (.ref b19), .unset] [(.int (lcmpW r40 r44))])) _
          refine XS.ifNo X43.here hx rfl (hb hby at_103) rfl ((if0 _ _).trans (flt (fun z => hc103 ((lw_gt r40 r44).mp z))).2.2.1) ?_
          show Steps p.tables e below (T43.setTop (mkF m 106 #[.val (.int p0), .val (.int p1), .val (.int p2), .val (.int (((p0 &&& (63 : Int32)) % (63 : Int32)) + (1 : Int32))), .val (.int (((p1 &&& (63 : Int32)) % (63 : Int32)) + (1 : Int32))), .val (.int v2_0), .val (.int v7_0), .val (.ref b12), .val (.ref b19), .unset] [])) _
          refine XS.iconst X43.here hx rfl (hb hby at_106) ?_
          show Steps p.tables e below (T43.setTop (mkF m 107 #[.val (.int p0), .val (.int p1), .val (.int p2), .val (.int (((p0 &&& (63 : Int32)) % (63 : Int32)) + (1 : Int32))), .val (.int (((p1 &&& (63 : Int32)) % (63 : Int32)) + (1 : Int32))), .val (.int v2_0), .val (.int v7_0), .val (.ref b12), .val (.ref b19), .unset] [(.int (1 : Int32))])) _
          refine XS.goto X43.here hx rfl (pc0 := 107) (pc' := 111) rfl (hb hby at_107) (by decide) (by decide) ?_
          show Steps p.tables e below (T43.setTop (mkF m 111 #[.val (.int p0), .val (.int p1), .val (.int p2), .val (.int (((p0 &&& (63 : Int32)) % (63 : Int32)) + (1 : Int32))), .val (.int (((p1 &&& (63 : Int32)) % (63 : Int32)) + (1 : Int32))), .val (.int v2_0), .val (.int v7_0), .val (.ref b12), .val (.ref b19), .unset] [(.int (1 : Int32))])) _
          exact Steps.refl _)
        subst hr44
        subst hr40
        exact ⟨T43, _, (1 : Int32), X43, eh43, N43', (by rw [if_neg hc86, if_neg hc103]), K48⟩
  have K49 := K35.trans S36
  have K50 : Steps p.tables e below _ (T36.setTop (mkF m 117 #[.val (.int p0), .val (.int p1), .val (.int p2), .val (.int (((p0 &&& (63 : Int32)) % (63 : Int32)) + (1 : Int32))), .val (.int (((p1 &&& (63 : Int32)) % (63 : Int32)) + (1 : Int32))), .val (.int v2_0), .val (.int v7_0), .val (.ref b12), .val (.ref b19), .val (.int v36_0)] [(.ref b19), (.ref b12)])) := K49.trans (by
    show Steps p.tables e below (T36.setTop (mkF m 111 #[.val (.int p0), .val (.int p1), .val (.int p2), .val (.int (((p0 &&& (63 : Int32)) % (63 : Int32)) + (1 : Int32))), .val (.int (((p1 &&& (63 : Int32)) % (63 : Int32)) + (1 : Int32))), .val (.int v2_0), .val (.int v7_0), .val (.ref b12), .val (.ref b19), .unset] [(.int v36_0)])) _
    refine XS.istore X36.here hx rfl (hb hby at_111) rfl (l' := #[.val (.int p0), .val (.int p1), .val (.int p2), .val (.int (((p0 &&& (63 : Int32)) % (63 : Int32)) + (1 : Int32))), .val (.int (((p1 &&& (63 : Int32)) % (63 : Int32)) + (1 : Int32))), .val (.int v2_0), .val (.int v7_0), .val (.ref b12), .val (.ref b19), .val (.int v36_0)]) rfl ?_
    show Steps p.tables e below (T36.setTop (mkF m 113 #[.val (.int p0), .val (.int p1), .val (.int p2), .val (.int (((p0 &&& (63 : Int32)) % (63 : Int32)) + (1 : Int32))), .val (.int (((p1 &&& (63 : Int32)) % (63 : Int32)) + (1 : Int32))), .val (.int v2_0), .val (.int v7_0), .val (.ref b12), .val (.ref b19), .val (.int v36_0)] [])) _
    refine XS.aload X36.here hx rfl (hb hby at_113) rfl rfl ?_
    show Steps p.tables e below (T36.setTop (mkF m 115 #[.val (.int p0), .val (.int p1), .val (.int p2), .val (.int (((p0 &&& (63 : Int32)) % (63 : Int32)) + (1 : Int32))), .val (.int (((p1 &&& (63 : Int32)) % (63 : Int32)) + (1 : Int32))), .val (.int v2_0), .val (.int v7_0), .val (.ref b12), .val (.ref b19), .val (.int v36_0)] [(.ref b12)])) _
    refine XS.aload X36.here hx rfl (hb hby at_115) rfl rfl ?_
    show Steps p.tables e below (T36.setTop (mkF m 117 #[.val (.int p0), .val (.int p1), .val (.int p2), .val (.int (((p0 &&& (63 : Int32)) % (63 : Int32)) + (1 : Int32))), .val (.int (((p1 &&& (63 : Int32)) % (63 : Int32)) + (1 : Int32))), .val (.int v2_0), .val (.int v7_0), .val (.ref b12), .val (.ref b19), .val (.int v36_0)] [(.ref b19), (.ref b12)])) _
    exact Steps.refl _)
  have F_51 : Fld Z T24.heap b12 "com/example/relinduct/relinduct/cfa/IntegerType" "signed" "Z" (.int (v2_0 &&& 1)) := ((Q16_2.ext E19).keep Kp24 (ninS ne_b12_b19 nin0))
  have F_52 : Fld Z T24.heap b12 "com/example/relinduct/relinduct/cfa/IntegerType" "bits" "I" (.int (((p0 &&& (63 : Int32)) % (63 : Int32)) + (1 : Int32))) := ((Q16_1.ext E19).keep Kp24 (ninS ne_b12_b19 nin0))
  have E_54 : Exa Z T24.heap b12 "com/example/relinduct/relinduct/cfa/IntegerType" := ((Q16_0.ext E19).keep Kp24)
  obtain ⟨cq53, kq53, q53a, q53b, q53c⟩ := isOf hZ e36 E_54
  obtain ⟨_, _, ⟨T53, L53, k53, n53⟩, -, X53, ⟨Lc53, hQ53, l53, y53, z53⟩, st53⟩ := X36.virtualBack hx (y := (⟨"com/example/relinduct/relinduct/cfa/IntegerType", "holds", "(Lcom/example/relinduct/relinduct/cfa/IntegerType;)Z"⟩ : MethodName)) (z := (⟨"com/example/relinduct/relinduct/cfa/IntegerType", "holds", "(Lcom/example/relinduct/relinduct/cfa/IntegerType;)Z"⟩ : MethodName)) hown (mvT hZ (hw _ (List.mem_of_getElem? (i := 22) rfl))) (mvT hZ (hw _ (List.mem_of_getElem? (i := 23) rfl))) (notFace_of_selects (args := #[]) (mvT hZ (hw _ (List.mem_of_getElem? (i := 25) rfl)))) (mvT hZ (hw _ (List.mem_of_getElem? (i := 25) rfl))) (mvT hZ (hw _ (List.mem_of_getElem? (i := 24) rfl))) (by decide) (backOf (W := 0) (rm5 l Z a0 hw [] b12 b19 (v2_0 &&& 1) (v7_0 &&& 1) (((p0 &&& (63 : Int32)) % (63 : Int32)) + (1 : Int32)) (((p1 &&& (63 : Int32)) % (63 : Int32)) + (1 : Int32)) T24.heap n0 Z_27 F_51 Q24_2 F_52 Q24_1) hZ (hw _ (List.mem_of_getElem? (i := 26) rfl)) (hw _ (List.mem_of_getElem? (i := 2) rfl)) (by decide) (by decide)) q53a q53c (g := (mkF m 117 #[.val (.int p0), .val (.int p1), .val (.int p2), .val (.int (((p0 &&& (63 : Int32)) % (63 : Int32)) + (1 : Int32))), .val (.int (((p1 &&& (63 : Int32)) % (63 : Int32)) + (1 : Int32))), .val (.int v2_0), .val (.int v7_0), .val (.ref b12), .val (.ref b19), .val (.int v36_0)] [(.ref b19), (.ref b12)])) rfl (by rw [hml]; rfl) K50 (argsL := [(.ref b19)]) (rest := []) (lenOf pd_3 rfl) rfl (by show 2 * 0 + _ ≤ _; exact Nat.le_of_eq rfl) (hb hby at_117) (fun _ _ => ⟨rfl, e36, (by decide : 2 + 0 ≤ _), (by decide : 4 + 0 ≤ _)⟩)
  dsimp only [Pt.U, Pt.locs, Pt.cells, Pt.slots] at X53 l53 y53 z53 st53 hQ53
  subst l53 y53 z53
  obtain ⟨rfl, N53, eh53⟩ := hQ53
  have N53' := Fr.app N36 N53
  have K56 : Steps p.tables e below _ (T53.setTop (mkF m 120 #[.val (.int p0), .val (.int p1), .val (.int p2), .val (.int (((p0 &&& (63 : Int32)) % (63 : Int32)) + (1 : Int32))), .val (.int (((p1 &&& (63 : Int32)) % (63 : Int32)) + (1 : Int32))), .val (.int v2_0), .val (.int v7_0), .val (.ref b12), .val (.ref b19), .val (.int v36_0)] [(.int ((if (v2_0 &&& 1) = (v7_0 &&& 1) then (if (((p0 &&& (63 : Int32)) % (63 : Int32)) + (1 : Int32)) < (((p1 &&& (63 : Int32)) % (63 : Int32)) + (1 : Int32)) then (0 : Int32) else (1 : Int32)) else (if (v2_0 &&& 1) = (0 : Int32) then (0 : Int32) else (if (((p1 &&& (63 : Int32)) % (63 : Int32)) + (1 : Int32)) < (((p0 &&& (63 : Int32)) % (63 : Int32)) + (1 : Int32)) then (1 : Int32) else (0 : Int32)))) &&& 1))])) := st53
  obtain ⟨r55, hr55⟩ : ∃ z : Int32, ((if (v2_0 &&& 1) = (v7_0 &&& 1) then (if (((p0 &&& (63 : Int32)) % (63 : Int32)) + (1 : Int32)) < (((p1 &&& (63 : Int32)) % (63 : Int32)) + (1 : Int32)) then (0 : Int32) else (1 : Int32)) else (if (v2_0 &&& 1) = (0 : Int32) then (0 : Int32) else (if (((p1 &&& (63 : Int32)) % (63 : Int32)) + (1 : Int32)) < (((p0 &&& (63 : Int32)) % (63 : Int32)) + (1 : Int32)) then (1 : Int32) else (0 : Int32)))) &&& 1) = z := ⟨_, rfl⟩
  rw [hr55] at K56
  have K57 : Steps p.tables e below _ (T53.setTop (mkF m 122 #[.val (.int p0), .val (.int p1), .val (.int p2), .val (.int (((p0 &&& (63 : Int32)) % (63 : Int32)) + (1 : Int32))), .val (.int (((p1 &&& (63 : Int32)) % (63 : Int32)) + (1 : Int32))), .val (.int v2_0), .val (.int v7_0), .val (.ref b12), .val (.ref b19), .val (.int v36_0)] [(.int v36_0), (.int r55)])) := K56.trans (by
    show Steps p.tables e below (T53.setTop (mkF m 120 #[.val (.int p0), .val (.int p1), .val (.int p2), .val (.int (((p0 &&& (63 : Int32)) % (63 : Int32)) + (1 : Int32))), .val (.int (((p1 &&& (63 : Int32)) % (63 : Int32)) + (1 : Int32))), .val (.int v2_0), .val (.int v7_0), .val (.ref b12), .val (.ref b19), .val (.int v36_0)] [(.int r55)])) _
    refine XS.iload X53.here hx rfl (hb hby at_120) rfl ?_
    show Steps p.tables e below (T53.setTop (mkF m 122 #[.val (.int p0), .val (.int p1), .val (.int p2), .val (.int (((p0 &&& (63 : Int32)) % (63 : Int32)) + (1 : Int32))), .val (.int (((p1 &&& (63 : Int32)) % (63 : Int32)) + (1 : Int32))), .val (.int v2_0), .val (.int v7_0), .val (.ref b12), .val (.ref b19), .val (.int v36_0)] [(.int v36_0), (.int r55)])) _
    exact Steps.refl _)
  obtain ⟨v58_0, hv58_0, S58⟩ : ∃ (v58_0 : Int32), (if r55 = v36_0 then (1 : Int32) else (0 : Int32)) = v58_0 ∧ Steps p.tables e below (T53.setTop (mkF m 122 #[.val (.int p0), .val (.int p1), .val (.int p2), .val (.int (((p0 &&& (63 : Int32)) % (63 : Int32)) + (1 : Int32))), .val (.int (((p1 &&& (63 : Int32)) % (63 : Int32)) + (1 : Int32))), .val (.int v2_0), .val (.int v7_0), .val (.ref b12), .val (.ref b19), .val (.int v36_0)] [(.int v36_0), (.int r55)])) (T53.setTop (mkF m 130 #[.val (.int p0), .val (.int p1), .val (.int p2), .val (.int (((p0 &&& (63 : Int32)) % (63 : Int32)) + (1 : Int32))), .val (.int (((p1 &&& (63 : Int32)) % (63 : Int32)) + (1 : Int32))), .val (.int v2_0), .val (.int v7_0), .val (.ref b12), .val (.ref b19), .val (.int v36_0)] [(.int v58_0)])) := by
    have R58 : Steps p.tables e below (T53.setTop (mkF m 122 #[.val (.int p0), .val (.int p1), .val (.int p2), .val (.int (((p0 &&& (63 : Int32)) % (63 : Int32)) + (1 : Int32))), .val (.int (((p1 &&& (63 : Int32)) % (63 : Int32)) + (1 : Int32))), .val (.int v2_0), .val (.int v7_0), .val (.ref b12), .val (.ref b19), .val (.int v36_0)] [(.int v36_0), (.int r55)])) (T53.setTop (mkF m 122 #[.val (.int p0), .val (.int p1), .val (.int p2), .val (.int (((p0 &&& (63 : Int32)) % (63 : Int32)) + (1 : Int32))), .val (.int (((p1 &&& (63 : Int32)) % (63 : Int32)) + (1 : Int32))), .val (.int v2_0), .val (.int v7_0), .val (.ref b12), .val (.ref b19), .val (.int v36_0)] [(.int v36_0), (.int r55)])) := Steps.refl _
    by_cases hc122 : r55 = v36_0
    · have K59 : Steps p.tables e below _ (T53.setTop (mkF m 130 #[.val (.int p0), .val (.int p1), .val (.int p2), .val (.int (((p0 &&& (63 : Int32)) % (63 : Int32)) + (1 : Int32))), .val (.int (((p1 &&& (63 : Int32)) % (63 : Int32)) + (1 : Int32))), .val (.int v2_0), .val (.int v7_0), .val (.ref b12), .val (.ref b19), .val (.int v36_0)] [(.int (1 : Int32))])) := R58.trans (by
        show Steps p.tables e below (T53.setTop (mkF m 122 #[.val (.int p0), .val (.int p1), .val (.int p2), .val (.int (((p0 &&& (63 : Int32)) % (63 : Int32)) + (1 : Int32))), .val (.int (((p1 &&& (63 : Int32)) % (63 : Int32)) + (1 : Int32))), .val (.int v2_0), .val (.int v7_0), .val (.ref b12), .val (.ref b19), .val (.int v36_0)] [(.int v36_0), (.int r55)])) _
        refine XS.icmpNo X53.here hx rfl (hb hby at_122) rfl (teq hc122).2 ?_
        show Steps p.tables e below (T53.setTop (mkF m 125 #[.val (.int p0), .val (.int p1), .val (.int p2), .val (.int (((p0 &&& (63 : Int32)) % (63 : Int32)) + (1 : Int32))), .val (.int (((p1 &&& (63 : Int32)) % (63 : Int32)) + (1 : Int32))), .val (.int v2_0), .val (.int v7_0), .val (.ref b12), .val (.ref b19), .val (.int v36_0)] [])) _
        refine XS.iconst X53.here hx rfl (hb hby at_125) ?_
        show Steps p.tables e below (T53.setTop (mkF m 126 #[.val (.int p0), .val (.int p1), .val (.int p2), .val (.int (((p0 &&& (63 : Int32)) % (63 : Int32)) + (1 : Int32))), .val (.int (((p1 &&& (63 : Int32)) % (63 : Int32)) + (1 : Int32))), .val (.int v2_0), .val (.int v7_0), .val (.ref b12), .val (.ref b19), .val (.int v36_0)] [(.int (1 : Int32))])) _
        refine XS.goto X53.here hx rfl (pc0 := 126) (pc' := 130) rfl (hb hby at_126) (by decide) (by decide) ?_
        show Steps p.tables e below (T53.setTop (mkF m 130 #[.val (.int p0), .val (.int p1), .val (.int p2), .val (.int (((p0 &&& (63 : Int32)) % (63 : Int32)) + (1 : Int32))), .val (.int (((p1 &&& (63 : Int32)) % (63 : Int32)) + (1 : Int32))), .val (.int v2_0), .val (.int v7_0), .val (.ref b12), .val (.ref b19), .val (.int v36_0)] [(.int (1 : Int32))])) _
        exact Steps.refl _)
      exact ⟨(1 : Int32), (by rw [if_pos hc122]), K59⟩
    · have K60 : Steps p.tables e below _ (T53.setTop (mkF m 130 #[.val (.int p0), .val (.int p1), .val (.int p2), .val (.int (((p0 &&& (63 : Int32)) % (63 : Int32)) + (1 : Int32))), .val (.int (((p1 &&& (63 : Int32)) % (63 : Int32)) + (1 : Int32))), .val (.int v2_0), .val (.int v7_0), .val (.ref b12), .val (.ref b19), .val (.int v36_0)] [(.int (0 : Int32))])) := R58.trans (by
        show Steps p.tables e below (T53.setTop (mkF m 122 #[.val (.int p0), .val (.int p1), .val (.int p2), .val (.int (((p0 &&& (63 : Int32)) % (63 : Int32)) + (1 : Int32))), .val (.int (((p1 &&& (63 : Int32)) % (63 : Int32)) + (1 : Int32))), .val (.int v2_0), .val (.int v7_0), .val (.ref b12), .val (.ref b19), .val (.int v36_0)] [(.int v36_0), (.int r55)])) _
        refine XS.icmpYes X53.here hx rfl (pc0 := 122) (pc' := 129) rfl (hb hby at_122) rfl (feq hc122).2 (by decide) (by decide) ?_
        show Steps p.tables e below (T53.setTop (mkF m 129 #[.val (.int p0), .val (.int p1), .val (.int p2), .val (.int (((p0 &&& (63 : Int32)) % (63 : Int32)) + (1 : Int32))), .val (.int (((p1 &&& (63 : Int32)) % (63 : Int32)) + (1 : Int32))), .val (.int v2_0), .val (.int v7_0), .val (.ref b12), .val (.ref b19), .val (.int v36_0)] [])) _
        refine XS.iconst X53.here hx rfl (hb hby at_129) ?_
        show Steps p.tables e below (T53.setTop (mkF m 130 #[.val (.int p0), .val (.int p1), .val (.int p2), .val (.int (((p0 &&& (63 : Int32)) % (63 : Int32)) + (1 : Int32))), .val (.int (((p1 &&& (63 : Int32)) % (63 : Int32)) + (1 : Int32))), .val (.int v2_0), .val (.int v7_0), .val (.ref b12), .val (.ref b19), .val (.int v36_0)] [(.int (0 : Int32))])) _
        exact Steps.refl _)
      exact ⟨(0 : Int32), (by rw [if_neg hc122]), K60⟩
  have K61 := K57.trans S58
  have hone : (v58_0 &&& 1) = (1 : Int32) := own_law_0 p0 p1 p2 v2_0 v7_0 r29 r33 v36_0 r55 v58_0 hv2_0 hv7_0 hr29 hr33 hv36_0 hr55 hv58_0
  obtain ⟨fs, hr, hrun, hended, hW, hsame⟩ := X53.leave (v := some (.int (v58_0 &&& 1))) (fun h => by rw [Bd.returns] at h; cases h)
  exact ⟨_, _, K61.trans (retN X53 hx (t := .boolean) Bd.returns (by simp) (hb hby at_130) hr), hrun, hended, _, _, rfl, ⟨by rw [hone], N53'⟩, ⟨_, rfl⟩, hW, hsame.mono (by decide) (by decide)⟩
set_option maxRecDepth 65536 in
set_option maxHeartbeats 40000000 in
theorem comes_1 {Post : Tables → Env → Array Value → State → Outcome → State → Prop} (hpost : ∀ tb e args s v u, (limb_1_1.after args s (.returned v) u = true ∧ limb_1_2.after args s (.returned v) u = true ∧ True) → FrameEnd s (.returned v) u (Jvm.fieldLocs frame_1_writes args s ++ Jvm.arrayLocs frame_1_arrays args s ++ Jvm.staticLocs frame_1_statics s) 16 128 → Post tb e args s (.returned v) u) :
    ArmFor flags0 classFile x code maxLocals ret World_1 tables_1 room_1 Calls_1 rest_1 Pre_1 Post := by
  intro l hfl _ _ p e ha hc hk s m args below hf hA hF happ hP
  obtain ⟨hcalls, hrest, hpre⟩ := hP
  obtain ⟨-, -, -, hnamed, -, -, -, hat⟩ := (Spec.applies_iff hf).mp happ
  obtain ⟨hg, hn⟩ := and_e (Cond.before_iff.mp (show (Jvm.Cond.and given_1 narrow_1).before args s = true from hpre))
  obtain ⟨g1, g2⟩ := and_e hg
  obtain ⟨g3, g4⟩ := and_e g2
  obtain ⟨g5, g6⟩ := and_e g4
  obtain ⟨w0, w1, w2, rfl⟩ : ∃ w0 w1 w2 : Value, args = #[w0, w1, w2] := by
    have hs : args.size = 3 := by simpa [Cond.value, given_1] using g1
    obtain ⟨L⟩ := args
    match L, hs with
    | [w0, w1, w2], _ => exact ⟨w0, w1, w2, rfl⟩
  have hw := fun d (hd : d ∈ tables_1) => atoms_spec (ws := Jvm.Cond.code x code maxLocals ret :: tables_1) hat d (List.mem_cons_of_mem _ hd)
  obtain ⟨i0, ei0⟩ := is_v g3
  obtain rfl : w0 = (.int i0) := Option.some.inj ei0
  obtain ⟨i1, ei1⟩ := is_v g5
  obtain rfl : w1 = (.int i1) := Option.some.inj ei1
  obtain ⟨i2, ei2⟩ := is_v g6
  obtain rfl : w2 = (.int i2) := Option.some.inj ei2
  obtain ⟨n, o, h1, h2, h3, _, L, rfl, ⟨rfl, N⟩, hq⟩ := rm0 l s _ hw tables_1 i0 i1 i2 s.heap s.heap.size (Nat.le_refl _) p e ha hc hk s m _ below hf ((Spec.applies_iff_loose hf).mp happ).1 ⟨rfl, State.Warmed39.refl s, rfl⟩ trivial
  refine ⟨n, _, h1, h2, h3, hpost _ _ _ _ _ _ ⟨Cond.after_iff.mpr rfl, Cond.after_iff.mpr (eq_i res_at (Term.int_eval (1)) rfl), trivial⟩ ⟨hq.1, hq.2.1, (hq.2.2.sift fun y hy => Or.inr (N y hy)).mono (by decide) (by decide)⟩⟩
theorem main_1_1 : Claimed_1_1 := comes_1 fun _ _ _ _ _ _ h hF => ⟨h.1, hF⟩
theorem main_1_2 : Claimed_1_2 := comes_1 fun _ _ _ _ _ _ h hF => ⟨h.2.1, hF⟩
end Jvm.Pilot.@@N@@
namespace Jvm.Pilot.@@N@@
open Jvm Jvm.ClassFile Sem Op Lib Jvm.Free Jvm.Stand Jvm.Pilot.@@N@@.Jvm.D
/-! MADE BY PROGRAM (witnessworld.py) out of the Statement's table words and the real class files: 10 classes; the members and pool entries that the words name. The judged class is class 1, her method 3. -/
namespace start1
open Jvm.ClassFile
def u (s : String) : CpInfo := .utf8 (stringToUtf16 s)
/-- a pool by its gaps: so many unusable entries, then the entry; so many at the end -/
def gap : Nat → List CpInfo → List CpInfo
  | 0, r => r
  | n + 1, r => .unusable :: gap n r
def poolList (es : List (Nat × CpInfo)) (last : Nat) : List CpInfo := es.foldr (fun e r => gap e.1 (e.2 :: r)) (gap last [])
def pool (es : List (Nat × CpInfo)) (last : Nat) : Array CpInfo := ⟨poolList es last⟩
def fileOf (pool : Array CpInfo) (this : Nat) (attrs : Array Attribute := #[]) (ms : Array MethodInfo := #[]) (fl : Nat := 33) (sup : Nat := 0) (ifs : Array Nat := #[]) (fds : Array FieldInfo := #[]) : ClassFile where
  minorVersion := 0
  majorVersion := 65
  constantPool := pool
  accessFlags := fl
  thisClass := this
  superClass := sup
  interfaces := ifs
  fields := fds
  methods := ms
  attributes := attrs
def plain (name : String) (sup : Option ClassId) : Class where
  name := name
  kind := .ordinary
  loader := none
  accessFlags := 33
  super := sup
  interfaces := #[]
  cf := none
  fields := #[]
  methods := #[]
  instanceTypes := #[]
  staticTypes := #[]
  resolved := #[]
  callSites := []
  init := .initialized
  statics := none
  mirror := none

def pool0 : Array CpInfo := pool [(5, u "<init>"), (0, u "()V"), (1, .class_ 10), (1, u "java/lang/Object")] 113

def k0c0 : Code := { maxStack := 0, maxLocals := 1, code := object_method_1_code, exceptionTable := #[], attributes := #[] }
def k0m0 : Method := { name := "<init>", desc := "()V", sig := { parameters := [], returnType := none }, accessFlags := 1, code := some k0c0 }
/-- java/lang/Object -/
def k0 : Class := { plain "java/lang/Object" none with
  accessFlags := 33
  interfaces := #[]
  cf := some (fileOf pool0 8 #[] #[{ accessFlags := 1, nameIndex := 5, descriptorIndex := 6, attributes := #[] }] 33 0 #[] #[])
  fields := #[]
  methods := #[k0m0]
  instanceTypes := #[]
  staticTypes := #[]
  resolved := Array.replicate 124 none
  statics := none }

def pool1 : Array CpInfo := pool [(2, .class_ 4), (1, u "java/lang/Object"), (0, u "<init>"), (0, u "()V"), (0, .class_ 8), (0, u "com/example/relinduct/relinduct/cfa/IntegerType"), (0, .methodref 7 10), (0, .nameAndType 5 11), (0, u "(IZ)V"), (0, .methodref 13 14), (0, .class_ 15), (0, .nameAndType 16 17), (0, u "com/example/relinduct/relinduct/cfa/IntegerTypeHoldsPinLaw"), (0, u "lo"), (0, u "(IZ)J"), (0, .methodref 13 19), (0, .nameAndType 20 17), (0, u "hi"), (0, .methodref 7 22), (0, .nameAndType 23 24), (0, u "holds"), (0, u "(Lcom/example/relinduct/relinduct/cfa/IntegerType;)Z"), (3, u "law"), (0, u "(III)Z")] 2

def k1m0 : Method := { name := "<init>", desc := "()V", sig := { parameters := [], returnType := none }, accessFlags := 1, code := none }
def k1c1 : Code := { maxStack := 4, maxLocals := 2, code := method_2_code, exceptionTable := #[], attributes := #[] }
def k1m1 : Method := { name := "lo", desc := "(IZ)J", sig := { parameters := [.int, .boolean], returnType := some .long }, accessFlags := 10, code := some k1c1 }
def k1c2 : Code := { maxStack := 4, maxLocals := 2, code := method_3_code, exceptionTable := #[], attributes := #[] }
def k1m2 : Method := { name := "hi", desc := "(IZ)J", sig := { parameters := [.int, .boolean], returnType := some .long }, accessFlags := 10, code := some k1c2 }
def k1c3 : Code := { maxStack := 4, maxLocals := 10, code := code, exceptionTable := #[], attributes := #[] }
def k1m3 : Method := { name := "law", desc := "(III)Z", sig := { parameters := [.int, .int, .int], returnType := some .boolean }, accessFlags := 9, code := some k1c3 }
/-- com/example/relinduct/relinduct/cfa/IntegerTypeHoldsPinLaw -/
def k1 : Class := { plain "com/example/relinduct/relinduct/cfa/IntegerTypeHoldsPinLaw" (some 0) with
  accessFlags := 49
  interfaces := #[]
  cf := some (fileOf pool1 13 #[] #[{ accessFlags := 1, nameIndex := 5, descriptorIndex := 6, attributes := #[] }, { accessFlags := 10, nameIndex := 16, descriptorIndex := 17, attributes := #[] }, { accessFlags := 10, nameIndex := 20, descriptorIndex := 17, attributes := #[] }, { accessFlags := 9, nameIndex := 28, descriptorIndex := 29, attributes := #[] }] 49 2 #[] #[])
  fields := #[]
  methods := #[k1m0, k1m1, k1m2, k1m3]
  instanceTypes := #[]
  staticTypes := #[]
  resolved := Array.replicate 32 none
  statics := none }

def pool2 : Array CpInfo := pool [(1, .methodref 2 3), (0, .class_ 4), (0, .nameAndType 5 6), (0, u "java/lang/Object"), (0, u "<init>"), (0, u "()V"), (0, .class_ 8), (0, u "java/lang/Record")] 13

def k2c0 : Code := { maxStack := 1, maxLocals := 1, code := jdk_30_method_1_code, exceptionTable := #[], attributes := #[] }
def k2m0 : Method := { name := "<init>", desc := "()V", sig := { parameters := [], returnType := none }, accessFlags := 4, code := some k2c0 }
/-- java/lang/Record -/
def k2 : Class := { plain "java/lang/Record" (some 0) with
  accessFlags := 1057
  interfaces := #[]
  cf := some (fileOf pool2 7 #[] #[{ accessFlags := 4, nameIndex := 5, descriptorIndex := 6, attributes := #[] }] 1057 2 #[] #[])
  fields := #[]
  methods := #[k2m0]
  instanceTypes := #[]
  staticTypes := #[]
  resolved := Array.replicate 22 none
  statics := none }

def pool3 : Array CpInfo := pool [(1, .methodref 2 3), (0, .class_ 4), (0, .nameAndType 5 6), (0, u "java/lang/Record"), (0, u "<init>"), (0, u "()V"), (0, .fieldref 8 9), (0, .class_ 10), (0, .nameAndType 11 12), (0, u "com/example/relinduct/relinduct/cfa/IntegerType"), (0, u "bits"), (0, u "I"), (0, .fieldref 8 14), (0, .nameAndType 15 16), (0, u "signed"), (0, u "Z"), (87, u "(IZ)V"), (2, u "INT"), (0, u "Lcom/example/relinduct/relinduct/cfa/IntegerType;"), (2, u "UNSIGNED_INT"), (2, u "UNSIGNED_LONG_LONG"), (6, u "holds"), (0, u "(Lcom/example/relinduct/relinduct/cfa/IntegerType;)Z")] 47

def k3c0 : Code := { maxStack := 2, maxLocals := 3, code := prog_34_method_1_code, exceptionTable := #[], attributes := #[] }
def k3m0 : Method := { name := "<init>", desc := "(IZ)V", sig := { parameters := [.int, .boolean], returnType := none }, accessFlags := 1, code := some k3c0 }
def k3c1 : Code := { maxStack := 2, maxLocals := 2, code := prog_34_method_3_code, exceptionTable := #[], attributes := #[] }
def k3m1 : Method := { name := "holds", desc := "(Lcom/example/relinduct/relinduct/cfa/IntegerType;)Z", sig := { parameters := [(.object "com/example/relinduct/relinduct/cfa/IntegerType")], returnType := some .boolean }, accessFlags := 1, code := some k3c1 }
/-- com/example/relinduct/relinduct/cfa/IntegerType -/
def k3 : Class := { plain "com/example/relinduct/relinduct/cfa/IntegerType" (some 2) with
  accessFlags := 49
  interfaces := #[]
  cf := some (fileOf pool3 8 #[] #[{ accessFlags := 1, nameIndex := 5, descriptorIndex := 104, attributes := #[] }, { accessFlags := 1, nameIndex := 121, descriptorIndex := 122, attributes := #[] }] 49 2 #[] #[{ accessFlags := 18, nameIndex := 11, descriptorIndex := 12, attributes := #[] }, { accessFlags := 18, nameIndex := 15, descriptorIndex := 16, attributes := #[] }, { accessFlags := 25, nameIndex := 107, descriptorIndex := 108, attributes := #[] }, { accessFlags := 25, nameIndex := 111, descriptorIndex := 108, attributes := #[] }, { accessFlags := 25, nameIndex := 114, descriptorIndex := 108, attributes := #[] }])
  fields := #[{ name := "bits", type := .int, accessFlags := 18, slot := 0, constantValue := 0 }, { name := "signed", type := .boolean, accessFlags := 18, slot := 1, constantValue := 0 }, { name := "INT", type := (.object "com/example/relinduct/relinduct/cfa/IntegerType"), accessFlags := 25, slot := 0, constantValue := 0 }, { name := "UNSIGNED_INT", type := (.object "com/example/relinduct/relinduct/cfa/IntegerType"), accessFlags := 25, slot := 1, constantValue := 0 }, { name := "UNSIGNED_LONG_LONG", type := (.object "com/example/relinduct/relinduct/cfa/IntegerType"), accessFlags := 25, slot := 2, constantValue := 0 }]
  methods := #[k3m0, k3m1]
  instanceTypes := #[.int, .boolean]
  staticTypes := #[(.object "com/example/relinduct/relinduct/cfa/IntegerType"), (.object "com/example/relinduct/relinduct/cfa/IntegerType"), (.object "com/example/relinduct/relinduct/cfa/IntegerType")]
  resolved := Array.replicate 170 none
  statics := none }

def pool4 : Array CpInfo := pool [(1, u "java/lang/Cloneable"), (0, .class_ 1), (0, u "java/lang/Object"), (0, .class_ 3)] 3

/-- java/lang/Cloneable -/
def k4 : Class := { plain "java/lang/Cloneable" (some 0) with
  accessFlags := 1537
  interfaces := #[]
  cf := some (fileOf pool4 2 #[] #[] 1537 4 #[] #[])
  fields := #[]
  methods := #[]
  instanceTypes := #[]
  staticTypes := #[]
  resolved := Array.replicate 8 none
  statics := none }

def pool5 : Array CpInfo := pool [(1, u "java/io/Serializable"), (0, .class_ 1), (0, u "java/lang/Object"), (0, .class_ 3)] 3

/-- java/io/Serializable -/
def k5 : Class := { plain "java/io/Serializable" (some 0) with
  accessFlags := 1537
  interfaces := #[]
  cf := some (fileOf pool5 2 #[] #[] 1537 4 #[] #[])
  fields := #[]
  methods := #[]
  instanceTypes := #[]
  staticTypes := #[]
  resolved := Array.replicate 8 none
  statics := none }

/-- the primitive byte -/
def k6 : Class := { plain "byte" none with kind := .primitive 'B', accessFlags := 0x411 }
/-- [B -/
def k7 : Class := { plain "[B" (some 0) with kind := .array 6 .byte, interfaces := #[4, 5], accessFlags := 1041 }

/-- the primitive int -/
def k8 : Class := { plain "int" none with kind := .primitive 'I', accessFlags := 0x411 }
/-- [I -/
def k9 : Class := { plain "[I" (some 0) with kind := .array 8 .int, interfaces := #[4, 5], accessFlags := 1041 }

def heap : Heap := #[]
def classes : Array Class := #[k0, k1, k2, k3, k4, k5, k6, k7, k8, k9]
def interned : List (Array UInt16 × Addr) := []
def slotsUsed : Nat := 0
def theMethod : MethodId := ⟨1, 3⟩
def args0 : Array Value := #[.int 5, .int 3, .int 1]
def aboutOver (below : List Frame) : State where
  vm := { classes := classes, interned := interned.toArray }
  heap := heap
  slotsUsed := slotsUsed
  threads := #[{ frames := .invoking theMethod args0 :: below }]
def below0 : List Frame := [.native { method := ⟨0, 0⟩, args := #[] }]
def about1 : State := aboutOver below0
def p0 : Program := .bare "" "" ""
def e0 : Env := launch0.env 0 0 0
theorem w_frames : about1.frames = Frame.invoking theMethod args0 :: below0 := rfl
set_option maxRecDepth 65536 in
theorem w_args : argsFit about1.vm theMethod args0 = true := by decide +kernel
set_option maxRecDepth 65536 in
theorem w_heap : heapFits about1 = true := by decide +kernel
set_option maxRecDepth 65536 in
theorem w_runnable : about1.curStatus? = some .runnable := by decide +kernel
set_option maxRecDepth 65536 in
theorem w_alone : about1.alone = true := by decide +kernel
set_option maxRecDepth 65536 in
theorem w_named : about1.methodNamed? x = some theMethod := by decide +kernel
set_option maxRecDepth 65536 in
theorem w_hears : about1.hears theMethod below0 = true := by decide +kernel
set_option maxRecDepth 65536 in
theorem w_ripe : about1.ripe theMethod args0 below0 = true := by decide +kernel
theorem w_running : about1.status = .running := rfl
set_option maxRecDepth 65536 in
theorem w_room : about1.hasRoom e0.platform room_1 = true :=
  launch0.hasRoom_least _ room_1 (by decide +kernel) (by decide +kernel) (by decide +kernel) (by decide +kernel) (by decide +kernel) (by decide +kernel)
theorem allAtoms_all (ts : List Jvm.Cond) (a : Array Jvm.Value) (st : Jvm.State) : (allAtoms ts).before a st = ts.all (fun c => c.before a st) := by
  induction ts with
  | nil => rfl
  | cons c t ih =>
    show (Jvm.Cond.and c (allAtoms t)).before a st = _
    rw [Jvm.Cond.before_and, ih, List.all_cons]
def words1 : List Jvm.Cond := Jvm.Cond.code x code maxLocals ret :: tables_1
/-- a 'code' word, met by the world's own term for the bytes: nothing is compared byte by byte -/
theorem code_word {y : MethodName} {bytes : ByteArray} {mx : Nat} {rt : Option FieldType} {a : Array Value} {s : State} {m : MethodId} {meth : Method} {c : Code} (h1 : s.methodNamed? y = some m) (h2 : s.vm.method? m = some meth) (h3 : meth.code = some c) (h4 : c.code = bytes)
    (h5 : (c.maxLocals == mx && c.exceptionTable.isEmpty && decide (c.maxStack ≤ mostOperands) && decide (meth.sig.returnType = rt) && !meth.locks && decide (parseMethodDescriptor y.desc = some meth.sig)) = true) : (Jvm.Cond.code y bytes mx rt).before a s = true := by
  simp only [Bool.and_eq_true, beq_iff_eq, Bool.not_eq_true', decide_eq_true_eq] at h5
  obtain ⟨⟨⟨⟨⟨g1, g2⟩, g3⟩, g4⟩, g5⟩, g6⟩ := h5
  simp [Cond.before, Cond.holds, Cond.value, h1, h2, h3, h4, g1, g2, g3, g4, g5, g6]
def isCode : Jvm.Cond → Bool
  | .code _ _ _ _ => true
  | _ => false
theorem all_split {L : List Jvm.Cond} {P : Jvm.Cond → Bool} (h1 : L.all (fun c => isCode c || P c) = true) (h2 : ∀ c ∈ L.filter isCode, P c = true) : L.all P = true := by
  refine List.all_eq_true.mpr fun c hc => ?_
  have h := List.all_eq_true.mp h1 c hc
  rcases Bool.eq_false_or_eq_true (isCode c) with hi | hi
  · exact h2 c (List.mem_filter.mpr ⟨hc, hi⟩)
  · simpa [hi] using h
set_option maxRecDepth 65536 in
theorem w_c0 : (Jvm.Cond.code x code maxLocals ret).before args0 about1 = true := code_word (m := ⟨1, 3⟩) (meth := k1m3) (c := k1c3) (by decide +kernel) rfl rfl rfl (by decide +kernel)
set_option maxRecDepth 65536 in
theorem w_c1 : (Jvm.Cond.code ({ cls := "com/example/relinduct/relinduct/cfa/IntegerType", name := "<init>", desc := "(IZ)V" } : Jvm.MethodName) prog_34_method_1_code (3 : Nat) (Option.none : Option Jvm.ClassFile.FieldType)).before args0 about1 = true := code_word (m := ⟨3, 0⟩) (meth := k3m0) (c := k3c0) (by decide +kernel) rfl rfl rfl (by decide +kernel)
set_option maxRecDepth 65536 in
theorem w_c2 : (Jvm.Cond.code ({ cls := "java/lang/Record", name := "<init>", desc := "()V" } : Jvm.MethodName) jdk_30_method_1_code (1 : Nat) (Option.none : Option Jvm.ClassFile.FieldType)).before args0 about1 = true := code_word (m := ⟨2, 0⟩) (meth := k2m0) (c := k2c0) (by decide +kernel) rfl rfl rfl (by decide +kernel)
set_option maxRecDepth 65536 in
theorem w_c3 : (Jvm.Cond.code ({ cls := "java/lang/Object", name := "<init>", desc := "()V" } : Jvm.MethodName) object_method_1_code (1 : Nat) (Option.none : Option Jvm.ClassFile.FieldType)).before args0 about1 = true := code_word (m := ⟨0, 0⟩) (meth := k0m0) (c := k0c0) (by decide +kernel) rfl rfl rfl (by decide +kernel)
set_option maxRecDepth 65536 in
theorem w_c4 : (Jvm.Cond.code ({ cls := "com/example/relinduct/relinduct/cfa/IntegerTypeHoldsPinLaw", name := "lo", desc := "(IZ)J" } : Jvm.MethodName) method_2_code (2 : Nat) (Option.some Jvm.ClassFile.FieldType.long)).before args0 about1 = true := code_word (m := ⟨1, 1⟩) (meth := k1m1) (c := k1c1) (by decide +kernel) rfl rfl rfl (by decide +kernel)
set_option maxRecDepth 65536 in
theorem w_c5 : (Jvm.Cond.code ({ cls := "com/example/relinduct/relinduct/cfa/IntegerType", name := "holds", desc := "(Lcom/example/relinduct/relinduct/cfa/IntegerType;)Z" } : Jvm.MethodName) prog_34_method_3_code (2 : Nat) (Option.some Jvm.ClassFile.FieldType.boolean)).before args0 about1 = true := code_word (m := ⟨3, 1⟩) (meth := k3m1) (c := k3c1) (by decide +kernel) rfl rfl rfl (by decide +kernel)
set_option maxRecDepth 65536 in
theorem w_c6 : (Jvm.Cond.code ({ cls := "com/example/relinduct/relinduct/cfa/IntegerTypeHoldsPinLaw", name := "hi", desc := "(IZ)J" } : Jvm.MethodName) method_3_code (2 : Nat) (Option.some Jvm.ClassFile.FieldType.long)).before args0 about1 = true := code_word (m := ⟨1, 2⟩) (meth := k1m2) (c := k1c2) (by decide +kernel) rfl rfl rfl (by decide +kernel)
def codes1 : List Jvm.Cond := [Jvm.Cond.code x code maxLocals ret, Jvm.Cond.code ({ cls := "com/example/relinduct/relinduct/cfa/IntegerType", name := "<init>", desc := "(IZ)V" } : Jvm.MethodName) prog_34_method_1_code (3 : Nat) (Option.none : Option Jvm.ClassFile.FieldType), Jvm.Cond.code ({ cls := "java/lang/Record", name := "<init>", desc := "()V" } : Jvm.MethodName) jdk_30_method_1_code (1 : Nat) (Option.none : Option Jvm.ClassFile.FieldType), Jvm.Cond.code ({ cls := "java/lang/Object", name := "<init>", desc := "()V" } : Jvm.MethodName) object_method_1_code (1 : Nat) (Option.none : Option Jvm.ClassFile.FieldType), Jvm.Cond.code ({ cls := "com/example/relinduct/relinduct/cfa/IntegerTypeHoldsPinLaw", name := "lo", desc := "(IZ)J" } : Jvm.MethodName) method_2_code (2 : Nat) (Option.some Jvm.ClassFile.FieldType.long), Jvm.Cond.code ({ cls := "com/example/relinduct/relinduct/cfa/IntegerType", name := "holds", desc := "(Lcom/example/relinduct/relinduct/cfa/IntegerType;)Z" } : Jvm.MethodName) prog_34_method_3_code (2 : Nat) (Option.some Jvm.ClassFile.FieldType.boolean), Jvm.Cond.code ({ cls := "com/example/relinduct/relinduct/cfa/IntegerTypeHoldsPinLaw", name := "hi", desc := "(IZ)J" } : Jvm.MethodName) method_3_code (2 : Nat) (Option.some Jvm.ClassFile.FieldType.long)]
set_option maxRecDepth 65536 in
theorem codes_eq : words1.filter isCode = codes1 := rfl
theorem w_codes : ∀ c ∈ words1.filter isCode, c.before args0 about1 = true := by
  rw [codes_eq]
  intro c hc
  simp only [codes1, List.mem_cons, List.not_mem_nil, or_false] at hc
  rcases hc with rfl | rfl | rfl | rfl | rfl | rfl | rfl
  · exact w_c0
  · exact w_c1
  · exact w_c2
  · exact w_c3
  · exact w_c4
  · exact w_c5
  · exact w_c6
set_option maxRecDepth 65536 in
theorem w_t1 : (words1.take 24).all (fun c => isCode c || c.before args0 about1) = true := by decide +kernel
set_option maxRecDepth 65536 in
theorem w_t2 : (words1.drop 24).all (fun c => isCode c || c.before args0 about1) = true := by decide +kernel
theorem w_tables : (allAtoms (Jvm.Cond.code x code maxLocals ret :: tables_1)).before args0 about1 = true := by
  rw [allAtoms_all]
  show words1.all (fun c => c.before args0 about1) = true
  refine all_split ?_ w_codes
  rw [← List.take_append_drop 24 words1, List.all_append, w_t1, w_t2]
  rfl
set_option maxRecDepth 65536 in
theorem w_case : (Jvm.Cond.and given_1 narrow_1).before args0 about1 = true := by decide +kernel
theorem w_applies : (headSpec (Jvm.Cond.code x code maxLocals ret :: tables_1) room_1).applies x e0.platform about1 = true :=
  (Spec.applies_iff w_frames).mpr ⟨w_running, w_runnable, w_alone, w_named, w_hears, w_ripe, w_room, w_tables⟩
theorem atStart : AtStart classFile x code maxLocals ret World_1 tables_1 room_1 Calls_1 rest_1 Pre_1 launch0 p0 e0 about1 theMethod args0 below0 :=
  ⟨lists_1, trivial, launch0.admits_env _ _ _, launch0.least_env, fairChoices_fair.cas, fairChoices_fair.clock, w_frames, w_args, w_heap, w_applies, trivial, trivial, w_case⟩
end start1
theorem witness_1 : WitnessClaimed_1 := ⟨start1.p0, start1.e0, start1.about1, start1.theMethod, start1.args0, start1.below0, start1.atStart⟩
end Jvm.Pilot.@@N@@
