import JvmDerived
import JvmDerived.Pilot.@@N@@Statement
import JvmDerived.Pilot.@@N@@Code
set_option linter.unusedVariables false
set_option linter.unusedSimpArgs false
namespace Jvm.Pilot.@@N@@
open Jvm Jvm.ClassFile Sem Op Lib Jvm.Free Jvm.Stand Jvm.LawKit Jvm.RoadKit Bundle Jvm.Pilot.@@N@@.Jvm.D
theorem own_lt32 {a b : Int32} : a < b ↔ a.toInt < b.toInt := Int32.lt_iff_toInt_lt
theorem own_eq32 {a b : Int32} : a = b ↔ a.toInt = b.toInt := Int32.toInt_inj.symm
theorem own_lt64 {a b : Int64} : a < b ↔ a.toInt < b.toInt := Int64.lt_iff_toInt_lt
theorem own_eq64 {a b : Int64} : a = b ↔ a.toInt = b.toInt := Int64.toInt_inj.symm
theorem d2_0 : decode jdk_30_method_1_code 0 = .ok (.aload_n 0, 1) := by decide +kernel
theorem d2_1 : decode jdk_30_method_1_code 1 = .ok (.invokespecial 1, 3) := by decide +kernel
def Q_rm2 (Z : State) (o0 : Addr) (h0 : Heap) (n0 : Nat) (v : Option Value) (h : Heap) (L : List Loc) : Prop := v = none ∧ Fr n0 L ∧ h = h0
theorem pn_2 : plainName "java/lang/Record" = true := by first | (simp [plainName, overriddenIn]; done) | decide +kernel
theorem ef_2 (m : MethodId) (x0 : Addr) : entryFrame m #[(.ref x0)] 1 = mkF m 0 #[.val (.ref x0)] [] := by first | (simp [entryFrame, mkF, argsToLocals, Value.category]; done) | rfl
theorem d2_4 : decode jdk_30_method_1_code 4 = .ok (.return_, 1) := by decide +kernel
set_option maxRecDepth 65536 in
set_option maxHeartbeats 40000000 in
theorem rm2 (l : Launch) (Z : State) (a0 : Array Value) (hw : ∀ d ∈ tables_1, d.before a0 Z = true) (ws : List Jvm.Cond) (o0 : Addr) (h0 : Heap) (n0 : Nat) (Z0 : n0 ≤ h0.size) :
    MetFree l (⟨"java/lang/Record", "<init>", "()V"⟩ : MethodName) (head1 (Jvm.Cond.code (⟨"java/lang/Record", "<init>", "()V"⟩ : MethodName) jdk_30_method_1_code 1 none :: ws) ({ frames := 1, cells := 0, slots := 0, locals := 12 } : Room)) (fun a U => a = #[(.ref o0)] ∧ Z.Warmed39 U.vm ∧ U.heap = h0) (fun _ _ _ _ _ => True) (fun _ U o U' => ∃ v L, o = .returned v ∧ Q_rm2 Z o0 h0 n0 v U'.heap L ∧ FrameEnd U o U' L ({ frames := 1, cells := 0, slots := 0, locals := 12 } : Room).cells ({ frames := 1, cells := 0, slots := 0, locals := 12 } : Room).slots) := by
  refine MetFree.of_bodySF (plainFor_of_name pn_2) hisR ?_
  intro p e s m args below meth c s₁ Bd hml0 hP hK
  obtain ⟨rfl, hZ, hh⟩ := hP
  have hx := Bd.exec
  have hby := Bd.bytes
  have hml : c.maxLocals = 1 := hml0
  have hown : s.vm.findClass "java/lang/Record" = some m.cls := findClass_of_methodNamed Bd.named
  have hnm := (name_of_methodNamed Bd.named Bd.method).1
  have X0 : Stand p l e ({ frames := 1, cells := 0, slots := 0, locals := 12 } : Room) s m #[(.ref o0)] below meth c s₁ [] 0 0 := Stand.of_body Bd
  have e0 : s₁.heap = h0 := by rw [← hh, Bd.state]; rfl
  have N0 := Fr.nil n0
  have Kp0 : Keep h0 h0 [] := Keep.refl _ _
  have K0 : Steps p.tables e below (s₁.setTop (entryFrame m #[(.ref o0)] 1)) (s₁.setTop (mkF m 0 #[.val (.ref o0)] [])) := castTop (ef_2 m o0) (Steps.refl _)
  have K1 : Steps p.tables e below _ (s₁.setTop (mkF m 1 #[.val (.ref o0)] [(.ref o0)])) := K0.trans (by
    show Steps p.tables e below (s₁.setTop (mkF m 0 #[.val (.ref o0)] [])) _
    refine XS.aloadN X0.here hx rfl (hb hby d2_0) rfl rfl ?_
    show Steps p.tables e below (s₁.setTop (mkF m 1 #[.val (.ref o0)] [(.ref o0)])) _
    exact Steps.refl _)
  obtain ⟨T2, X2, e2, st2⟩ := initO X0 hx hZ hown (hw _ (List.mem_of_getElem? (i := 11) rfl)) (hw _ (List.mem_of_getElem? (i := 12) rfl)) (hw _ (List.mem_of_getElem? (i := 13) rfl)) e0 (g := (mkF m 1 #[.val (.ref o0)] [(.ref o0)])) rfl (by rw [hml]; rfl) rfl (hb hby d2_1) (by decide) (W := 0) (by show 2 * 0 + _ ≤ _; exact Nat.le_of_eq rfl) (by decide)
  have K3 : Steps p.tables e below _ (T2.setTop (mkF m 4 #[.val (.ref o0)] [])) := K1.trans (st2 _ (Steps.refl _))
  obtain ⟨fs, hr, hrun, hended, hW, hsame⟩ := X2.leave (v := none) (fun _ => rfl)
  refine ⟨_, _, K3.trans (X2.returnOut hx Bd.returns (hb hby d2_4) hr), hrun, hended, _, _, rfl, ?_, ⟨_, rfl⟩, hW, hsame.mono (by decide) (by first | decide | omega)⟩
  show Q_rm2 Z o0 h0 n0 _ T2.heap _
  rw [e2]
  exact ⟨rfl, N0, rfl⟩
theorem d1_0 : decode prog_36_method_1_code 0 = .ok (.aload_n 0, 1) := by decide +kernel
theorem pd_0 : parseMethodDescriptor "()V" = some ⟨[], none⟩ := by decide +kernel
theorem d1_1 : decode prog_36_method_1_code 1 = .ok (.invokespecial 1, 3) := by decide +kernel
theorem d1_4 : decode prog_36_method_1_code 4 = .ok (.aload_n 0, 1) := by decide +kernel
theorem d1_5 : decode prog_36_method_1_code 5 = .ok (.lload_n 1, 1) := by decide +kernel
theorem d1_6 : decode prog_36_method_1_code 6 = .ok (.putfield 7, 3) := by decide +kernel
theorem d1_9 : decode prog_36_method_1_code 9 = .ok (.aload_n 0, 1) := by decide +kernel
theorem d1_10 : decode prog_36_method_1_code 10 = .ok (.iload_n 3, 1) := by decide +kernel
theorem d1_11 : decode prog_36_method_1_code 11 = .ok (.putfield 13, 3) := by decide +kernel
def Q_rm1 (Z : State) (o0 : Addr) (q1 : Int64) (p2 : Int32) (u3_timestamp : Value) (u4_relativeOffset : Value) (h0 : Heap) (n0 : Nat) (v : Option Value) (h : Heap) (L : List Loc) : Prop := v = none ∧ Fr n0 L ∧ Keep h0 h [o0] ∧ Exa Z h o0 "com/example/modest_log/modestlog/log/TimeIndexEntry" ∧ Fld Z h o0 "com/example/modest_log/modestlog/log/TimeIndexEntry" "timestamp" "J" (.long q1) ∧ Fld Z h o0 "com/example/modest_log/modestlog/log/TimeIndexEntry" "relativeOffset" "I" (.int p2)
theorem pn_1 : plainName "com/example/modest_log/modestlog/log/TimeIndexEntry" = true := by first | (simp [plainName, overriddenIn]; done) | decide +kernel
theorem ef_1 (m : MethodId) (x0 : Addr) (x1 : Int64) (x2 : Int32) : entryFrame m #[(.ref x0), (.long x1), (.int x2)] 4 = mkF m 0 #[.val (.ref x0), .val (.long x1), .second, .val (.int x2)] [] := by first | (simp [entryFrame, mkF, argsToLocals, Value.category]; done) | rfl
theorem d1_14 : decode prog_36_method_1_code 14 = .ok (.return_, 1) := by decide +kernel
set_option maxRecDepth 65536 in
set_option maxHeartbeats 40000000 in
theorem rm1 (l : Launch) (Z : State) (a0 : Array Value) (hw : ∀ d ∈ tables_1, d.before a0 Z = true) (ws : List Jvm.Cond) (o0 : Addr) (q1 : Int64) (p2 : Int32) (u3_timestamp : Value) (u4_relativeOffset : Value) (h0 : Heap) (n0 : Nat) (Z0 : n0 ≤ h0.size) (g_o0 : n0 ≤ o0) (E_o0 : Exa Z h0 o0 "com/example/modest_log/modestlog/log/TimeIndexEntry") (F_timestamp_o0 : Fld Z h0 o0 "com/example/modest_log/modestlog/log/TimeIndexEntry" "timestamp" "J" u3_timestamp) (F_relativeOffset_o0 : Fld Z h0 o0 "com/example/modest_log/modestlog/log/TimeIndexEntry" "relativeOffset" "I" u4_relativeOffset) :
    MetFree l (⟨"com/example/modest_log/modestlog/log/TimeIndexEntry", "<init>", "(JI)V"⟩ : MethodName) (head1 (Jvm.Cond.code (⟨"com/example/modest_log/modestlog/log/TimeIndexEntry", "<init>", "(JI)V"⟩ : MethodName) prog_36_method_1_code 4 none :: ws) ({ frames := 2, cells := 0, slots := 0, locals := 24 } : Room)) (fun a U => a = #[(.ref o0), (.long q1), (.int p2)] ∧ Z.Warmed39 U.vm ∧ U.heap = h0) (fun _ _ _ _ _ => True) (fun _ U o U' => ∃ v L, o = .returned v ∧ Q_rm1 Z o0 q1 p2 u3_timestamp u4_relativeOffset h0 n0 v U'.heap L ∧ FrameEnd U o U' L ({ frames := 2, cells := 0, slots := 0, locals := 24 } : Room).cells ({ frames := 2, cells := 0, slots := 0, locals := 24 } : Room).slots) := by
  refine MetFree.of_bodySF (plainFor_of_name pn_1) hisR ?_
  intro p e s m args below meth c s₁ Bd hml0 hP hK
  obtain ⟨rfl, hZ, hh⟩ := hP
  have hx := Bd.exec
  have hby := Bd.bytes
  have hml : c.maxLocals = 4 := hml0
  have hown : s.vm.findClass "com/example/modest_log/modestlog/log/TimeIndexEntry" = some m.cls := findClass_of_methodNamed Bd.named
  have hnm := (name_of_methodNamed Bd.named Bd.method).1
  have X0 : Stand p l e ({ frames := 2, cells := 0, slots := 0, locals := 24 } : Room) s m #[(.ref o0), (.long q1), (.int p2)] below meth c s₁ [] 0 0 := Stand.of_body Bd
  have e0 : s₁.heap = h0 := by rw [← hh, Bd.state]; rfl
  have N0 := Fr.nil n0
  have Kp0 : Keep h0 h0 [o0] := Keep.refl _ _
  have K0 : Steps p.tables e below (s₁.setTop (entryFrame m #[(.ref o0), (.long q1), (.int p2)] 4)) (s₁.setTop (mkF m 0 #[.val (.ref o0), .val (.long q1), .second, .val (.int p2)] [])) := castTop (ef_1 m o0 q1 p2) (Steps.refl _)
  have K1 : Steps p.tables e below _ (s₁.setTop (mkF m 1 #[.val (.ref o0), .val (.long q1), .second, .val (.int p2)] [(.ref o0)])) := K0.trans (by
    show Steps p.tables e below (s₁.setTop (mkF m 0 #[.val (.ref o0), .val (.long q1), .second, .val (.int p2)] [])) _
    refine XS.aloadN X0.here hx rfl (hb hby d1_0) rfl rfl ?_
    show Steps p.tables e below (s₁.setTop (mkF m 1 #[.val (.ref o0), .val (.long q1), .second, .val (.int p2)] [(.ref o0)])) _
    exact Steps.refl _)
  obtain ⟨_, _, ⟨T2, L2, k2, n2⟩, -, X2, ⟨Lc2, hQ2, l2, y2, z2⟩, st2⟩ := X0.specialBack hx (y := (⟨"java/lang/Record", "<init>", "()V"⟩ : MethodName)) rfl hown (mvT hZ (hw _ (List.mem_of_getElem? (i := 6) rfl))) (mvT hZ (hw _ (List.mem_of_getElem? (i := 7) rfl))) (mvT hZ (hw _ (List.mem_of_getElem? (i := 10) rfl))) (by decide) (backOf (W := 0) (rm2 l Z a0 hw [] o0 h0 n0 Z0 ) hZ (hw _ (List.mem_of_getElem? (i := 10) rfl)) (hw _ (List.mem_of_getElem? (i := 9) rfl)) (by decide) (by decide)) (g := (mkF m 1 #[.val (.ref o0), .val (.long q1), .second, .val (.int p2)] [(.ref o0)])) rfl (by rw [hml]; rfl) K1 (a := o0) (argsL := []) (rest := []) (lenOf pd_0 rfl) rfl (by show 2 * 0 + _ ≤ _; exact Nat.le_of_eq rfl) (hb hby d1_1) (fun _ _ => ⟨rfl, e0, (by decide : 0 + 0 ≤ _), (by decide : 0 + 0 ≤ _)⟩)
  dsimp only [Pt.U, Pt.locs, Pt.cells, Pt.slots] at X2 l2 y2 z2 st2 hQ2
  subst l2 y2 z2
  obtain ⟨rfl, N2, eh2⟩ := hQ2
  have N2' := Fr.app N0 N2
  have K3 : Steps p.tables e below _ (T2.setTop (mkF m 4 #[.val (.ref o0), .val (.long q1), .second, .val (.int p2)] [])) := st2
  have K4 : Steps p.tables e below _ (T2.setTop (mkF m 6 #[.val (.ref o0), .val (.long q1), .second, .val (.int p2)] [(.long q1), (.ref o0)])) := K3.trans (by
    show Steps p.tables e below (T2.setTop (mkF m 4 #[.val (.ref o0), .val (.long q1), .second, .val (.int p2)] [])) _
    refine XS.aloadN X2.here hx rfl (hb hby d1_4) rfl rfl ?_
    show Steps p.tables e below (T2.setTop (mkF m 5 #[.val (.ref o0), .val (.long q1), .second, .val (.int p2)] [(.ref o0)])) _
    refine XS.lloadN X2.here hx rfl (hb hby d1_5) rfl ?_
    show Steps p.tables e below (T2.setTop (mkF m 6 #[.val (.ref o0), .val (.long q1), .second, .val (.int p2)] [(.long q1), (.ref o0)])) _
    exact Steps.refl _)
  obtain ⟨T5, h5, X5, e5, W5, st5⟩ := putF X2 hx hZ hown (host := "") (Or.inl (hw _ (List.mem_of_getElem? (i := 14) rfl))) Via.refl eh2 F_timestamp_o0 E_o0 (Or.inr ⟨(hw _ (List.mem_of_getElem? (i := 15) rfl)), rfl, hnm⟩) (hw _ (List.mem_of_getElem? (i := 1) rfl)) (ty := .long) (by decide) rfl rfl (g := (mkF m 6 #[.val (.ref o0), .val (.long q1), .second, .val (.int p2)] [(.long q1), (.ref o0)])) rfl rfl (hb hby d1_6)
  have K6 : Steps p.tables e below _ (T5.setTop (mkF m 9 #[.val (.ref o0), .val (.long q1), .second, .val (.int p2)] [])) := K4.trans (st5 _ (Steps.refl _))
  have Fw5 : Fld Z h5 o0 "com/example/modest_log/modestlog/log/TimeIndexEntry" "timestamp" "J" (.long q1) := F_timestamp_o0.same W5
  have N5 := Fr.snoc X5 N2' g_o0
  have K7 : Steps p.tables e below _ (T5.setTop (mkF m 11 #[.val (.ref o0), .val (.long q1), .second, .val (.int p2)] [(.int p2), (.ref o0)])) := K6.trans (by
    show Steps p.tables e below (T5.setTop (mkF m 9 #[.val (.ref o0), .val (.long q1), .second, .val (.int p2)] [])) _
    refine XS.aloadN X5.here hx rfl (hb hby d1_9) rfl rfl ?_
    show Steps p.tables e below (T5.setTop (mkF m 10 #[.val (.ref o0), .val (.long q1), .second, .val (.int p2)] [(.ref o0)])) _
    refine XS.iloadN X5.here hx rfl (hb hby d1_10) rfl ?_
    show Steps p.tables e below (T5.setTop (mkF m 11 #[.val (.ref o0), .val (.long q1), .second, .val (.int p2)] [(.int p2), (.ref o0)])) _
    exact Steps.refl _)
  have E_8 : Exa Z h5 o0 "com/example/modest_log/modestlog/log/TimeIndexEntry" := (E_o0.wr W5)
  have F_9 : Fld Z h5 o0 "com/example/modest_log/modestlog/log/TimeIndexEntry" "relativeOffset" "I" u4_relativeOffset := (F_relativeOffset_o0.other W5 (Or.inr (slot_ne (Or.inr (hw _ (List.mem_of_getElem? (i := 17) rfl))) (Or.inr (hw _ (List.mem_of_getElem? (i := 15) rfl))) (by decide) (t := .int) (t' := .long) (by decide) (by decide))))
  obtain ⟨T10, h10, X10, e10, W10, st10⟩ := putF X5 hx hZ hown (host := "") (Or.inl (hw _ (List.mem_of_getElem? (i := 16) rfl))) Via.refl e5 F_9 E_8 (Or.inr ⟨(hw _ (List.mem_of_getElem? (i := 17) rfl)), rfl, hnm⟩) (hw _ (List.mem_of_getElem? (i := 1) rfl)) (ty := .int) (by decide) rfl rfl (g := (mkF m 11 #[.val (.ref o0), .val (.long q1), .second, .val (.int p2)] [(.int p2), (.ref o0)])) rfl rfl (hb hby d1_11)
  have K11 : Steps p.tables e below _ (T10.setTop (mkF m 14 #[.val (.ref o0), .val (.long q1), .second, .val (.int p2)] [])) := K7.trans (st10 _ (Steps.refl _))
  have Fw10 : Fld Z h10 o0 "com/example/modest_log/modestlog/log/TimeIndexEntry" "relativeOffset" "I" (.int p2) := F_9.same W10
  have N10 := Fr.snoc X10 N5 g_o0
  obtain ⟨fs, hr, hrun, hended, hW, hsame⟩ := X10.leave (v := none) (fun _ => rfl)
  have K_12 : Keep h0 h10 [o0] := ((Kp0.wr W5 (Or.inl (List.mem_of_getElem? (i := 0) rfl))).wr W10 (Or.inl (List.mem_of_getElem? (i := 0) rfl)))
  have E_13 : Exa Z h10 o0 "com/example/modest_log/modestlog/log/TimeIndexEntry" := (E_8.wr W10)
  have F_14 : Fld Z h10 o0 "com/example/modest_log/modestlog/log/TimeIndexEntry" "timestamp" "J" (.long q1) := (Fw5.other W10 (Or.inr (slot_ne (Or.inr (hw _ (List.mem_of_getElem? (i := 15) rfl))) (Or.inr (hw _ (List.mem_of_getElem? (i := 17) rfl))) (by decide) (t := .long) (t' := .int) (by decide) (by decide))))
  refine ⟨_, _, K11.trans (X10.returnOut hx Bd.returns (hb hby d1_14) hr), hrun, hended, _, _, rfl, ?_, ⟨_, rfl⟩, hW, hsame.mono (by decide) (by first | decide | omega)⟩
  show Q_rm1 Z o0 q1 p2 u3_timestamp u4_relativeOffset h0 n0 _ T10.heap _
  rw [e10]
  exact ⟨rfl, N10, K_12, E_13, F_14, Fw10⟩
theorem d4_0 : decode prog_36_method_7_code 0 = .ok (.lload_n 1, 1) := by decide +kernel
theorem d4_1 : decode prog_36_method_7_code 1 = .ok (.aload_n 0, 1) := by decide +kernel
theorem d4_2 : decode prog_36_method_7_code 2 = .ok (.getfield 7, 3) := by decide +kernel
theorem d4_5 : decode prog_36_method_7_code 5 = .ok (.lcmp, 1) := by decide +kernel
theorem d4_6 : decode prog_36_method_7_code 6 = .ok (.ifCond .lt 7, 3) := by decide +kernel
theorem d4_13 : decode prog_36_method_7_code 13 = .ok (.iconst 0, 1) := by decide +kernel
theorem d4_9 : decode prog_36_method_7_code 9 = .ok (.iconst 1, 1) := by decide +kernel
theorem d4_10 : decode prog_36_method_7_code 10 = .ok (.goto 4, 3) := by decide +kernel
def Q_rm4 (Z : State) (o0 : Addr) (q1 : Int64) (w2_timestamp : Int64) (h0 : Heap) (n0 : Nat) (v : Option Value) (h : Heap) (L : List Loc) : Prop := v = some (.int ((if q1 < w2_timestamp then (0 : Int32) else (1 : Int32)) &&& 1)) ∧ Fr n0 L ∧ h = h0
theorem pn_4 : plainName "com/example/modest_log/modestlog/log/TimeIndexEntry" = true := by first | (simp [plainName, overriddenIn]; done) | decide +kernel
theorem ef_4 (m : MethodId) (x0 : Addr) (x1 : Int64) : entryFrame m #[(.ref x0), (.long x1)] 3 = mkF m 0 #[.val (.ref x0), .val (.long x1), .second] [] := by first | (simp [entryFrame, mkF, argsToLocals, Value.category]; done) | rfl
theorem d4_14 : decode prog_36_method_7_code 14 = .ok (.ireturn, 1) := by decide +kernel
set_option maxRecDepth 65536 in
set_option maxHeartbeats 40000000 in
theorem rm4 (l : Launch) (Z : State) (a0 : Array Value) (hw : ∀ d ∈ tables_1, d.before a0 Z = true) (ws : List Jvm.Cond) (o0 : Addr) (q1 : Int64) (w2_timestamp : Int64) (h0 : Heap) (n0 : Nat) (Z0 : n0 ≤ h0.size) (F_timestamp_o0 : Fld Z h0 o0 "com/example/modest_log/modestlog/log/TimeIndexEntry" "timestamp" "J" (.long w2_timestamp)) :
    MetFree l (⟨"com/example/modest_log/modestlog/log/TimeIndexEntry", "isReachedBy", "(J)Z"⟩ : MethodName) (head1 (Jvm.Cond.code (⟨"com/example/modest_log/modestlog/log/TimeIndexEntry", "isReachedBy", "(J)Z"⟩ : MethodName) prog_36_method_7_code 3 (some .boolean) :: ws) ({ frames := 0, cells := 0, slots := 0, locals := 0 } : Room)) (fun a U => a = #[(.ref o0), (.long q1)] ∧ Z.Warmed39 U.vm ∧ U.heap = h0) (fun _ _ _ _ _ => True) (fun _ U o U' => ∃ v L, o = .returned v ∧ Q_rm4 Z o0 q1 w2_timestamp h0 n0 v U'.heap L ∧ FrameEnd U o U' L ({ frames := 0, cells := 0, slots := 0, locals := 0 } : Room).cells ({ frames := 0, cells := 0, slots := 0, locals := 0 } : Room).slots) := by
  refine MetFree.of_bodySF (plainFor_of_name pn_4) hisR ?_
  intro p e s m args below meth c s₁ Bd hml0 hP hK
  obtain ⟨rfl, hZ, hh⟩ := hP
  have hx := Bd.exec
  have hby := Bd.bytes
  have hml : c.maxLocals = 3 := hml0
  have hown : s.vm.findClass "com/example/modest_log/modestlog/log/TimeIndexEntry" = some m.cls := findClass_of_methodNamed Bd.named
  have hnm := (name_of_methodNamed Bd.named Bd.method).1
  have X0 : Stand p l e ({ frames := 0, cells := 0, slots := 0, locals := 0 } : Room) s m #[(.ref o0), (.long q1)] below meth c s₁ [] 0 0 := Stand.of_body Bd
  have e0 : s₁.heap = h0 := by rw [← hh, Bd.state]; rfl
  have N0 := Fr.nil n0
  have Kp0 : Keep h0 h0 [] := Keep.refl _ _
  have K0 : Steps p.tables e below (s₁.setTop (entryFrame m #[(.ref o0), (.long q1)] 3)) (s₁.setTop (mkF m 0 #[.val (.ref o0), .val (.long q1), .second] [])) := castTop (ef_4 m o0 q1) (Steps.refl _)
  have K1 : Steps p.tables e below _ (s₁.setTop (mkF m 2 #[.val (.ref o0), .val (.long q1), .second] [(.ref o0), (.long q1)])) := K0.trans (by
    show Steps p.tables e below (s₁.setTop (mkF m 0 #[.val (.ref o0), .val (.long q1), .second] [])) _
    refine XS.lloadN X0.here hx rfl (hb hby d4_0) rfl ?_
    show Steps p.tables e below (s₁.setTop (mkF m 1 #[.val (.ref o0), .val (.long q1), .second] [(.long q1)])) _
    refine XS.aloadN X0.here hx rfl (hb hby d4_1) rfl rfl ?_
    show Steps p.tables e below (s₁.setTop (mkF m 2 #[.val (.ref o0), .val (.long q1), .second] [(.ref o0), (.long q1)])) _
    exact Steps.refl _)
  obtain ⟨T2, X2, e2, st2⟩ := getF X0 hx hZ hown (host := "") (Or.inl (hw _ (List.mem_of_getElem? (i := 14) rfl))) Via.refl e0 F_timestamp_o0 (g := (mkF m 2 #[.val (.ref o0), .val (.long q1), .second] [(.ref o0), (.long q1)])) rfl rfl (hb hby d4_2)
  have K3 : Steps p.tables e below _ (T2.setTop (mkF m 5 #[.val (.ref o0), .val (.long q1), .second] [(.long w2_timestamp), (.long q1)])) := K1.trans (st2 _ (Steps.refl _))
  have K4 : Steps p.tables e below _ (T2.setTop (mkF m 6 #[.val (.ref o0), .val (.long q1), .second] [(.int (lcmpW q1 w2_timestamp))])) := K3.trans (by
    show Steps p.tables e below (T2.setTop (mkF m 5 #[.val (.ref o0), .val (.long q1), .second] [(.long w2_timestamp), (.long q1)])) _
    refine XS.lcmp X2.here hx rfl (hb hby d4_5) rfl ?_
    show Steps p.tables e below (T2.setTop (mkF m 6 #[.val (.ref o0), .val (.long q1), .second] [(.int (lcmpW q1 w2_timestamp))])) _
    exact Steps.refl _)
  obtain ⟨v5_0, hv5_0, S5⟩ : ∃ (v5_0 : Int32), (if q1 < w2_timestamp then (0 : Int32) else (1 : Int32)) = v5_0 ∧ Steps p.tables e below (T2.setTop (mkF m 6 #[.val (.ref o0), .val (.long q1), .second] [(.int (lcmpW q1 w2_timestamp))])) (T2.setTop (mkF m 14 #[.val (.ref o0), .val (.long q1), .second] [(.int v5_0)])) := by
    have R5 : Steps p.tables e below (T2.setTop (mkF m 6 #[.val (.ref o0), .val (.long q1), .second] [(.int (lcmpW q1 w2_timestamp))])) (T2.setTop (mkF m 6 #[.val (.ref o0), .val (.long q1), .second] [(.int (lcmpW q1 w2_timestamp))])) := Steps.refl _
    by_cases hc6 : q1 < w2_timestamp
    · have K6 : Steps p.tables e below _ (T2.setTop (mkF m 14 #[.val (.ref o0), .val (.long q1), .second] [(.int (0 : Int32))])) := R5.trans (by
        show Steps p.tables e below (T2.setTop (mkF m 6 #[.val (.ref o0), .val (.long q1), .second] [(.int (lcmpW q1 w2_timestamp))])) _
        refine XS.ifYes X2.here hx rfl (pc0 := 6) (pc' := 13) rfl (hb hby d4_6) rfl ((if0 _ _).trans (tlt ((lw_lt q1 w2_timestamp).mpr hc6)).1) (by decide) (by decide) ?_
        show Steps p.tables e below (T2.setTop (mkF m 13 #[.val (.ref o0), .val (.long q1), .second] [])) _
        refine XS.iconst X2.here hx rfl (hb hby d4_13) ?_
        show Steps p.tables e below (T2.setTop (mkF m 14 #[.val (.ref o0), .val (.long q1), .second] [(.int (0 : Int32))])) _
        exact Steps.refl _)
      exact ⟨(0 : Int32), (by rw [if_pos hc6]), K6⟩
    · have K7 : Steps p.tables e below _ (T2.setTop (mkF m 14 #[.val (.ref o0), .val (.long q1), .second] [(.int (1 : Int32))])) := R5.trans (by
        show Steps p.tables e below (T2.setTop (mkF m 6 #[.val (.ref o0), .val (.long q1), .second] [(.int (lcmpW q1 w2_timestamp))])) _
        refine XS.ifNo X2.here hx rfl (hb hby d4_6) rfl ((if0 _ _).trans (flt (fun z => hc6 ((lw_lt q1 w2_timestamp).mp z))).1) ?_
        show Steps p.tables e below (T2.setTop (mkF m 9 #[.val (.ref o0), .val (.long q1), .second] [])) _
        refine XS.iconst X2.here hx rfl (hb hby d4_9) ?_
        show Steps p.tables e below (T2.setTop (mkF m 10 #[.val (.ref o0), .val (.long q1), .second] [(.int (1 : Int32))])) _
        refine XS.goto X2.here hx rfl (pc0 := 10) (pc' := 14) rfl (hb hby d4_10) (by decide) (by decide) ?_
        show Steps p.tables e below (T2.setTop (mkF m 14 #[.val (.ref o0), .val (.long q1), .second] [(.int (1 : Int32))])) _
        exact Steps.refl _)
      exact ⟨(1 : Int32), (by rw [if_neg hc6]), K7⟩
  have K8 := K4.trans S5
  subst hv5_0
  obtain ⟨fs, hr, hrun, hended, hW, hsame⟩ := X2.leave (v := some (.int ((if q1 < w2_timestamp then (0 : Int32) else (1 : Int32)) &&& 1))) (fun h => by rw [Bd.returns] at h; cases h)
  refine ⟨_, _, K8.trans (retN X2 hx (t := .boolean) Bd.returns (by simp) (hb hby d4_14) hr), hrun, hended, _, _, rfl, ?_, ⟨_, rfl⟩, hW, hsame.mono (by decide) (by first | decide | omega)⟩
  show Q_rm4 Z o0 q1 w2_timestamp h0 n0 _ T2.heap _
  rw [e2]
  exact ⟨rfl, N0, rfl⟩
theorem d5_0 : decode jdk_29_method_70_code 0 = .ok (.lload_n 0, 1) := by decide +kernel
theorem d5_1 : decode jdk_29_method_70_code 1 = .ok (.lload_n 2, 1) := by decide +kernel
theorem d5_2 : decode jdk_29_method_70_code 2 = .ok (.lcmp, 1) := by decide +kernel
theorem d5_3 : decode jdk_29_method_70_code 3 = .ok (.ifCond .gt 7, 3) := by decide +kernel
theorem d5_10 : decode jdk_29_method_70_code 10 = .ok (.lload_n 2, 1) := by decide +kernel
theorem d5_6 : decode jdk_29_method_70_code 6 = .ok (.lload_n 0, 1) := by decide +kernel
theorem d5_7 : decode jdk_29_method_70_code 7 = .ok (.goto 4, 3) := by decide +kernel
def Q_rm5 (Z : State) (q0 : Int64) (q1 : Int64) (h0 : Heap) (n0 : Nat) (v : Option Value) (h : Heap) (L : List Loc) : Prop := v = some (.long (if q1 < q0 then q1 else q0)) ∧ Fr n0 L ∧ h = h0
theorem ef_5 (m : MethodId) (x0 : Int64) (x1 : Int64) : entryFrame m #[(.long x0), (.long x1)] 4 = mkF m 0 #[.val (.long x0), .second, .val (.long x1), .second] [] := by first | (simp [entryFrame, mkF, argsToLocals, Value.category]; done) | rfl
theorem d5_11 : decode jdk_29_method_70_code 11 = .ok (.lreturn, 1) := by decide +kernel
set_option maxRecDepth 65536 in
set_option maxHeartbeats 40000000 in
theorem rm5 (l : Launch) (Z : State) (a0 : Array Value) (hw : ∀ d ∈ tables_1, d.before a0 Z = true) (ws : List Jvm.Cond) (q0 : Int64) (q1 : Int64) (h0 : Heap) (n0 : Nat) (Z0 : n0 ≤ h0.size) :
    MetFree l (⟨"java/lang/Math", "min", "(JJ)J"⟩ : MethodName) (head1 (Jvm.Cond.code (⟨"java/lang/Math", "min", "(JJ)J"⟩ : MethodName) jdk_29_method_70_code 4 (some .long) :: ws) ({ frames := 0, cells := 0, slots := 0, locals := 0 } : Room)) (fun a U => a = #[(.long q0), (.long q1)] ∧ Z.Warmed39 U.vm ∧ U.heap = h0) (fun _ _ _ _ _ => True) (fun _ U o U' => ∃ v L, o = .returned v ∧ Q_rm5 Z q0 q1 h0 n0 v U'.heap L ∧ FrameEnd U o U' L ({ frames := 0, cells := 0, slots := 0, locals := 0 } : Room).cells ({ frames := 0, cells := 0, slots := 0, locals := 0 } : Room).slots) := by
  refine MetFree.of_bodySF (Jvm.Free.JP.mathPlain rfl (by decide +kernel)) hisR ?_
  intro p e s m args below meth c s₁ Bd hml0 hP hK
  obtain ⟨rfl, hZ, hh⟩ := hP
  have hx := Bd.exec
  have hby := Bd.bytes
  have hml : c.maxLocals = 4 := hml0
  have hown : s.vm.findClass "java/lang/Math" = some m.cls := findClass_of_methodNamed Bd.named
  have hnm := (name_of_methodNamed Bd.named Bd.method).1
  have X0 : Stand p l e ({ frames := 0, cells := 0, slots := 0, locals := 0 } : Room) s m #[(.long q0), (.long q1)] below meth c s₁ [] 0 0 := Stand.of_body Bd
  have e0 : s₁.heap = h0 := by rw [← hh, Bd.state]; rfl
  have N0 := Fr.nil n0
  have Kp0 : Keep h0 h0 [] := Keep.refl _ _
  have K0 : Steps p.tables e below (s₁.setTop (entryFrame m #[(.long q0), (.long q1)] 4)) (s₁.setTop (mkF m 0 #[.val (.long q0), .second, .val (.long q1), .second] [])) := castTop (ef_5 m q0 q1) (Steps.refl _)
  have K1 : Steps p.tables e below _ (s₁.setTop (mkF m 3 #[.val (.long q0), .second, .val (.long q1), .second] [(.int (lcmpW q0 q1))])) := K0.trans (by
    show Steps p.tables e below (s₁.setTop (mkF m 0 #[.val (.long q0), .second, .val (.long q1), .second] [])) _
    refine XS.lloadN X0.here hx rfl (hb hby d5_0) rfl ?_
    show Steps p.tables e below (s₁.setTop (mkF m 1 #[.val (.long q0), .second, .val (.long q1), .second] [(.long q0)])) _
    refine XS.lloadN X0.here hx rfl (hb hby d5_1) rfl ?_
    show Steps p.tables e below (s₁.setTop (mkF m 2 #[.val (.long q0), .second, .val (.long q1), .second] [(.long q1), (.long q0)])) _
    refine XS.lcmp X0.here hx rfl (hb hby d5_2) rfl ?_
    show Steps p.tables e below (s₁.setTop (mkF m 3 #[.val (.long q0), .second, .val (.long q1), .second] [(.int (lcmpW q0 q1))])) _
    exact Steps.refl _)
  obtain ⟨v2_0, hv2_0, S2⟩ : ∃ (v2_0 : Int64), (if q1 < q0 then q1 else q0) = v2_0 ∧ Steps p.tables e below (s₁.setTop (mkF m 3 #[.val (.long q0), .second, .val (.long q1), .second] [(.int (lcmpW q0 q1))])) (s₁.setTop (mkF m 11 #[.val (.long q0), .second, .val (.long q1), .second] [(.long v2_0)])) := by
    have R2 : Steps p.tables e below (s₁.setTop (mkF m 3 #[.val (.long q0), .second, .val (.long q1), .second] [(.int (lcmpW q0 q1))])) (s₁.setTop (mkF m 3 #[.val (.long q0), .second, .val (.long q1), .second] [(.int (lcmpW q0 q1))])) := Steps.refl _
    by_cases hc3 : q1 < q0
    · have K3 : Steps p.tables e below _ (s₁.setTop (mkF m 11 #[.val (.long q0), .second, .val (.long q1), .second] [(.long q1)])) := R2.trans (by
        show Steps p.tables e below (s₁.setTop (mkF m 3 #[.val (.long q0), .second, .val (.long q1), .second] [(.int (lcmpW q0 q1))])) _
        refine XS.ifYes X0.here hx rfl (pc0 := 3) (pc' := 10) rfl (hb hby d5_3) rfl ((if0 _ _).trans (tlt ((lw_gt q0 q1).mpr hc3)).2.2.1) (by decide) (by decide) ?_
        show Steps p.tables e below (s₁.setTop (mkF m 10 #[.val (.long q0), .second, .val (.long q1), .second] [])) _
        refine XS.lloadN X0.here hx rfl (hb hby d5_10) rfl ?_
        show Steps p.tables e below (s₁.setTop (mkF m 11 #[.val (.long q0), .second, .val (.long q1), .second] [(.long q1)])) _
        exact Steps.refl _)
      exact ⟨q1, (by rw [if_pos hc3]), K3⟩
    · have K4 : Steps p.tables e below _ (s₁.setTop (mkF m 11 #[.val (.long q0), .second, .val (.long q1), .second] [(.long q0)])) := R2.trans (by
        show Steps p.tables e below (s₁.setTop (mkF m 3 #[.val (.long q0), .second, .val (.long q1), .second] [(.int (lcmpW q0 q1))])) _
        refine XS.ifNo X0.here hx rfl (hb hby d5_3) rfl ((if0 _ _).trans (flt (fun z => hc3 ((lw_gt q0 q1).mp z))).2.2.1) ?_
        show Steps p.tables e below (s₁.setTop (mkF m 6 #[.val (.long q0), .second, .val (.long q1), .second] [])) _
        refine XS.lloadN X0.here hx rfl (hb hby d5_6) rfl ?_
        show Steps p.tables e below (s₁.setTop (mkF m 7 #[.val (.long q0), .second, .val (.long q1), .second] [(.long q0)])) _
        refine XS.goto X0.here hx rfl (pc0 := 7) (pc' := 11) rfl (hb hby d5_7) (by decide) (by decide) ?_
        show Steps p.tables e below (s₁.setTop (mkF m 11 #[.val (.long q0), .second, .val (.long q1), .second] [(.long q0)])) _
        exact Steps.refl _)
      exact ⟨q0, (by rw [if_neg hc3]), K4⟩
  have K5 := K1.trans S2
  subst hv2_0
  obtain ⟨fs, hr, hrun, hended, hW, hsame⟩ := X0.leave (v := some (.long (if q1 < q0 then q1 else q0))) (fun h => by rw [Bd.returns] at h; cases h)
  refine ⟨_, _, K5.trans (retOut X0 hx Bd.returns rfl (Or.inr (Or.inl ⟨rfl, rfl, _, rfl⟩)) (hb hby d5_11) hr), hrun, hended, _, _, rfl, ?_, ⟨_, rfl⟩, hW, hsame.mono (by decide) (by first | decide | omega)⟩
  show Q_rm5 Z q0 q1 h0 n0 _ s₁.heap _
  rw [e0]
  exact ⟨rfl, N0, rfl⟩
theorem d6_0 : decode jdk_29_method_66_code 0 = .ok (.lload_n 0, 1) := by decide +kernel
theorem d6_1 : decode jdk_29_method_66_code 1 = .ok (.lload_n 2, 1) := by decide +kernel
theorem d6_2 : decode jdk_29_method_66_code 2 = .ok (.lcmp, 1) := by decide +kernel
theorem d6_3 : decode jdk_29_method_66_code 3 = .ok (.ifCond .lt 7, 3) := by decide +kernel
theorem d6_10 : decode jdk_29_method_66_code 10 = .ok (.lload_n 2, 1) := by decide +kernel
theorem d6_6 : decode jdk_29_method_66_code 6 = .ok (.lload_n 0, 1) := by decide +kernel
theorem d6_7 : decode jdk_29_method_66_code 7 = .ok (.goto 4, 3) := by decide +kernel
def Q_rm6 (Z : State) (q0 : Int64) (q1 : Int64) (h0 : Heap) (n0 : Nat) (v : Option Value) (h : Heap) (L : List Loc) : Prop := v = some (.long (if q0 < q1 then q1 else q0)) ∧ Fr n0 L ∧ h = h0
theorem ef_6 (m : MethodId) (x0 : Int64) (x1 : Int64) : entryFrame m #[(.long x0), (.long x1)] 4 = mkF m 0 #[.val (.long x0), .second, .val (.long x1), .second] [] := by first | (simp [entryFrame, mkF, argsToLocals, Value.category]; done) | rfl
theorem d6_11 : decode jdk_29_method_66_code 11 = .ok (.lreturn, 1) := by decide +kernel
set_option maxRecDepth 65536 in
set_option maxHeartbeats 40000000 in
theorem rm6 (l : Launch) (Z : State) (a0 : Array Value) (hw : ∀ d ∈ tables_1, d.before a0 Z = true) (ws : List Jvm.Cond) (q0 : Int64) (q1 : Int64) (h0 : Heap) (n0 : Nat) (Z0 : n0 ≤ h0.size) :
    MetFree l (⟨"java/lang/Math", "max", "(JJ)J"⟩ : MethodName) (head1 (Jvm.Cond.code (⟨"java/lang/Math", "max", "(JJ)J"⟩ : MethodName) jdk_29_method_66_code 4 (some .long) :: ws) ({ frames := 0, cells := 0, slots := 0, locals := 0 } : Room)) (fun a U => a = #[(.long q0), (.long q1)] ∧ Z.Warmed39 U.vm ∧ U.heap = h0) (fun _ _ _ _ _ => True) (fun _ U o U' => ∃ v L, o = .returned v ∧ Q_rm6 Z q0 q1 h0 n0 v U'.heap L ∧ FrameEnd U o U' L ({ frames := 0, cells := 0, slots := 0, locals := 0 } : Room).cells ({ frames := 0, cells := 0, slots := 0, locals := 0 } : Room).slots) := by
  refine MetFree.of_bodySF (Jvm.Free.JP.mathPlain rfl (by decide +kernel)) hisR ?_
  intro p e s m args below meth c s₁ Bd hml0 hP hK
  obtain ⟨rfl, hZ, hh⟩ := hP
  have hx := Bd.exec
  have hby := Bd.bytes
  have hml : c.maxLocals = 4 := hml0
  have hown : s.vm.findClass "java/lang/Math" = some m.cls := findClass_of_methodNamed Bd.named
  have hnm := (name_of_methodNamed Bd.named Bd.method).1
  have X0 : Stand p l e ({ frames := 0, cells := 0, slots := 0, locals := 0 } : Room) s m #[(.long q0), (.long q1)] below meth c s₁ [] 0 0 := Stand.of_body Bd
  have e0 : s₁.heap = h0 := by rw [← hh, Bd.state]; rfl
  have N0 := Fr.nil n0
  have Kp0 : Keep h0 h0 [] := Keep.refl _ _
  have K0 : Steps p.tables e below (s₁.setTop (entryFrame m #[(.long q0), (.long q1)] 4)) (s₁.setTop (mkF m 0 #[.val (.long q0), .second, .val (.long q1), .second] [])) := castTop (ef_6 m q0 q1) (Steps.refl _)
  have K1 : Steps p.tables e below _ (s₁.setTop (mkF m 3 #[.val (.long q0), .second, .val (.long q1), .second] [(.int (lcmpW q0 q1))])) := K0.trans (by
    show Steps p.tables e below (s₁.setTop (mkF m 0 #[.val (.long q0), .second, .val (.long q1), .second] [])) _
    refine XS.lloadN X0.here hx rfl (hb hby d6_0) rfl ?_
    show Steps p.tables e below (s₁.setTop (mkF m 1 #[.val (.long q0), .second, .val (.long q1), .second] [(.long q0)])) _
    refine XS.lloadN X0.here hx rfl (hb hby d6_1) rfl ?_
    show Steps p.tables e below (s₁.setTop (mkF m 2 #[.val (.long q0), .second, .val (.long q1), .second] [(.long q1), (.long q0)])) _
    refine XS.lcmp X0.here hx rfl (hb hby d6_2) rfl ?_
    show Steps p.tables e below (s₁.setTop (mkF m 3 #[.val (.long q0), .second, .val (.long q1), .second] [(.int (lcmpW q0 q1))])) _
    exact Steps.refl _)
  obtain ⟨v2_0, hv2_0, S2⟩ : ∃ (v2_0 : Int64), (if q0 < q1 then q1 else q0) = v2_0 ∧ Steps p.tables e below (s₁.setTop (mkF m 3 #[.val (.long q0), .second, .val (.long q1), .second] [(.int (lcmpW q0 q1))])) (s₁.setTop (mkF m 11 #[.val (.long q0), .second, .val (.long q1), .second] [(.long v2_0)])) := by
    have R2 : Steps p.tables e below (s₁.setTop (mkF m 3 #[.val (.long q0), .second, .val (.long q1), .second] [(.int (lcmpW q0 q1))])) (s₁.setTop (mkF m 3 #[.val (.long q0), .second, .val (.long q1), .second] [(.int (lcmpW q0 q1))])) := Steps.refl _
    by_cases hc3 : q0 < q1
    · have K3 : Steps p.tables e below _ (s₁.setTop (mkF m 11 #[.val (.long q0), .second, .val (.long q1), .second] [(.long q1)])) := R2.trans (by
        show Steps p.tables e below (s₁.setTop (mkF m 3 #[.val (.long q0), .second, .val (.long q1), .second] [(.int (lcmpW q0 q1))])) _
        refine XS.ifYes X0.here hx rfl (pc0 := 3) (pc' := 10) rfl (hb hby d6_3) rfl ((if0 _ _).trans (tlt ((lw_lt q0 q1).mpr hc3)).1) (by decide) (by decide) ?_
        show Steps p.tables e below (s₁.setTop (mkF m 10 #[.val (.long q0), .second, .val (.long q1), .second] [])) _
        refine XS.lloadN X0.here hx rfl (hb hby d6_10) rfl ?_
        show Steps p.tables e below (s₁.setTop (mkF m 11 #[.val (.long q0), .second, .val (.long q1), .second] [(.long q1)])) _
        exact Steps.refl _)
      exact ⟨q1, (by rw [if_pos hc3]), K3⟩
    · have K4 : Steps p.tables e below _ (s₁.setTop (mkF m 11 #[.val (.long q0), .second, .val (.long q1), .second] [(.long q0)])) := R2.trans (by
        show Steps p.tables e below (s₁.setTop (mkF m 3 #[.val (.long q0), .second, .val (.long q1), .second] [(.int (lcmpW q0 q1))])) _
        refine XS.ifNo X0.here hx rfl (hb hby d6_3) rfl ((if0 _ _).trans (flt (fun z => hc3 ((lw_lt q0 q1).mp z))).1) ?_
        show Steps p.tables e below (s₁.setTop (mkF m 6 #[.val (.long q0), .second, .val (.long q1), .second] [])) _
        refine XS.lloadN X0.here hx rfl (hb hby d6_6) rfl ?_
        show Steps p.tables e below (s₁.setTop (mkF m 7 #[.val (.long q0), .second, .val (.long q1), .second] [(.long q0)])) _
        refine XS.goto X0.here hx rfl (pc0 := 7) (pc' := 11) rfl (hb hby d6_7) (by decide) (by decide) ?_
        show Steps p.tables e below (s₁.setTop (mkF m 11 #[.val (.long q0), .second, .val (.long q1), .second] [(.long q0)])) _
        exact Steps.refl _)
      exact ⟨q0, (by rw [if_neg hc3]), K4⟩
  have K5 := K1.trans S2
  subst hv2_0
  obtain ⟨fs, hr, hrun, hended, hW, hsame⟩ := X0.leave (v := some (.long (if q0 < q1 then q1 else q0))) (fun h => by rw [Bd.returns] at h; cases h)
  refine ⟨_, _, K5.trans (retOut X0 hx Bd.returns rfl (Or.inr (Or.inl ⟨rfl, rfl, _, rfl⟩)) (hb hby d6_11) hr), hrun, hended, _, _, rfl, ?_, ⟨_, rfl⟩, hW, hsame.mono (by decide) (by first | decide | omega)⟩
  show Q_rm6 Z q0 q1 h0 n0 _ s₁.heap _
  rw [e0]
  exact ⟨rfl, N0, rfl⟩
theorem pd_1 : parseMethodDescriptor "(JI)V" = some ⟨[.long, .int], none⟩ := by decide +kernel
theorem pd_2 : parseMethodDescriptor "(J)Z" = some ⟨[.long], some .boolean⟩ := by decide +kernel
theorem pd_3 : parseMethodDescriptor "(JJ)J" = some ⟨[.long, .long], some .long⟩ := by decide +kernel
def Q_rm0 (n0 : Nat) (v : Option Value) (L : List Loc) : Prop := v = some (.int 1) ∧ Fr n0 L
theorem pn_0 : plainName "com/example/modest_log/modestlog/log/TimeIndexEntryIsReachedByPinLaw" = true := by first | (simp [plainName, overriddenIn]; done) | decide +kernel
theorem ef_0 (m : MethodId) (x0 : Int64) (x1 : Int32) (x2 : Int64) (x3 : Int64) : entryFrame m #[(.long x0), (.int x1), (.long x2), (.long x3)] maxLocals = mkF m 0 #[.val (.long x0), .second, .val (.int x1), .val (.long x2), .second, .val (.long x3), .second, .unset, .unset, .unset, .unset, .unset, .unset, .unset, .unset, .unset, .unset, .unset] [] := by first | (simp [entryFrame, mkF, argsToLocals, Value.category, maxLocals]; done) | rfl
set_option maxRecDepth 65536 in
set_option maxHeartbeats 4000000 in
theorem own_law_0 (q0 : Int64) (p1 : Int32) (q2 : Int64) (q3 : Int64) (r10 : Int32) (v13_0 : Int32) (r24 : Int64) (r28 : Int64) (r32 : Int32) (r36 : Int32) (v39_0 : Int32) (hr10 : ((if q0 < q0 then (0 : Int32) else (1 : Int32)) &&& 1) = r10) (hv13_0 : (if (q0 - (1 : Int64)) < q0 then (if ((if (q0 - (1 : Int64)) < q0 then (0 : Int32) else (1 : Int32)) &&& 1) = (0 : Int32) then (0 : Int32) else (1 : Int32)) else (0 : Int32)) = v13_0) (hr24 : (if q3 < q2 then q3 else q2) = r24) (hr28 : (if q2 < q3 then q3 else q2) = r28) (hr32 : ((if r24 < q0 then (0 : Int32) else (1 : Int32)) &&& 1) = r32) (hr36 : ((if r28 < q0 then (0 : Int32) else (1 : Int32)) &&& 1) = r36) (hv39_0 : (if r10 = (0 : Int32) then (0 : Int32) else (if v13_0 = (0 : Int32) then (if r32 = (0 : Int32) then (1 : Int32) else (if r36 = (0 : Int32) then (0 : Int32) else (1 : Int32))) else (0 : Int32))) = v39_0) : (v39_0 &&& 1) = (1 : Int32) := by
  have h10 : r10 = (1 : Int32) := by rw [← hr10, if_neg Int64.lt_irrefl]; rfl
  have h13 : v13_0 = (0 : Int32) := by
    rw [← hv13_0]
    by_cases c : (q0 - (1 : Int64)) < q0
    · rw [if_pos c, if_pos c]; rfl
    · rw [if_neg c]
  have h24 : r24.toInt ≤ r28.toInt := by
    rw [← hr24, ← hr28]
    by_cases a : q3 < q2 <;> by_cases b : q2 < q3 <;> simp only [a, b, if_true, if_false] <;> rw [own_lt64] at a b <;> omega
  rw [h10, h13] at hv39_0
  by_cases a : r24 < q0
  · rw [if_pos a] at hr32
    by_cases b : r28 < q0 <;> simp only [b, if_true, if_false] at hr36 <;> subst hr32 hr36 hv39_0 <;> decide
  · have b : ¬ r28 < q0 := by rw [own_lt64] at a ⊢; omega
    rw [if_neg a] at hr32
    rw [if_neg b] at hr36
    subst hr32 hr36 hv39_0
    decide
set_option maxRecDepth 65536 in
set_option maxHeartbeats 40000000 in
theorem rm0 (l : Launch) (Z : State) (a0 : Array Value) (hw : ∀ d ∈ tables_1, d.before a0 Z = true) (ws : List Jvm.Cond) (q0 : Int64) (p1 : Int32) (q2 : Int64) (q3 : Int64) (h0 : Heap) (n0 : Nat) (Z0 : n0 ≤ h0.size) :
    MetFree l x (head1 (Jvm.Cond.code x code maxLocals ret :: ws) room_1) (fun a U => a = #[(.long q0), (.int p1), (.long q2), (.long q3)] ∧ Z.Warmed39 U.vm ∧ U.heap = h0) (fun _ _ _ _ _ => True) (fun _ U o U' => ∃ v L, o = .returned v ∧ Q_rm0 n0 v L ∧ FrameEnd U o U' L 1 2) := by
  refine MetFree.of_bodySF (plainFor_of_name pn_0) hisR ?_
  intro p e s m args below meth c s₁ Bd hml0 hP hK
  obtain ⟨rfl, hZ, hh⟩ := hP
  have hx := Bd.exec
  have hby := Bd.bytes
  have hml : c.maxLocals = 18 := hml0
  have hown : s.vm.findClass "com/example/modest_log/modestlog/log/TimeIndexEntryIsReachedByPinLaw" = some m.cls := findClass_of_methodNamed Bd.named
  have hnm := (name_of_methodNamed Bd.named Bd.method).1
  have X0 : Stand p l e room_1 s m #[(.long q0), (.int p1), (.long q2), (.long q3)] below meth c s₁ [] 0 0 := Stand.of_body Bd
  have e0 : s₁.heap = h0 := by rw [← hh, Bd.state]; rfl
  have N0 := Fr.nil n0
  have K0 : Steps p.tables e below (s₁.setTop (entryFrame m #[(.long q0), (.int p1), (.long q2), (.long q3)] maxLocals)) (s₁.setTop (mkF m 0 #[.val (.long q0), .second, .val (.int p1), .val (.long q2), .second, .val (.long q3), .second, .unset, .unset, .unset, .unset, .unset, .unset, .unset, .unset, .unset, .unset, .unset] [])) := castTop (ef_0 m q0 p1 q2 q3) (Steps.refl _)
  obtain ⟨T1, h1, X1, e1, E1, A1, D1, -, st1⟩ := newO X0 hx hZ hown (hw _ (List.mem_of_getElem? (i := 0) rfl)) (hw _ (List.mem_of_getElem? (i := 1) rfl)) (hw _ (List.mem_of_getElem? (i := 2) rfl)) e0 (g := (mkF m 0 #[.val (.long q0), .second, .val (.int p1), .val (.long q2), .second, .val (.long q3), .second, .unset, .unset, .unset, .unset, .unset, .unset, .unset, .unset, .unset, .unset, .unset] [])) rfl (hb hby at_0) (by decide) (by decide)
  obtain ⟨b1, g1⟩ : ∃ z, z = h0.size := ⟨_, rfl⟩
  rw [← g1] at A1 D1 st1
  have ge_b1 : n0 ≤ b1 := Nat.le_trans Z0 (Nat.le_of_eq g1.symm)
  have K2 : Steps p.tables e below _ (T1.setTop (mkF m 3 #[.val (.long q0), .second, .val (.int p1), .val (.long q2), .second, .val (.long q3), .second, .unset, .unset, .unset, .unset, .unset, .unset, .unset, .unset, .unset, .unset, .unset] [(.ref b1)])) := K0.trans (st1 _ (Steps.refl _))
  have F1_timestamp : Fld Z h1 b1 "com/example/modest_log/modestlog/log/TimeIndexEntry" "timestamp" "J" (.long (0 : Int64)) := D1 (Or.inr (hw _ (List.mem_of_getElem? (i := 15) rfl))) (ty := .long) (by decide)
  have F1_relativeOffset : Fld Z h1 b1 "com/example/modest_log/modestlog/log/TimeIndexEntry" "relativeOffset" "I" (.int (0 : Int32)) := D1 (Or.inr (hw _ (List.mem_of_getElem? (i := 17) rfl))) (ty := .int) (by decide)
  have K3 : Steps p.tables e below _ (T1.setTop (mkF m 6 #[.val (.long q0), .second, .val (.int p1), .val (.long q2), .second, .val (.long q3), .second, .unset, .unset, .unset, .unset, .unset, .unset, .unset, .unset, .unset, .unset, .unset] [(.int p1), (.long q0), (.ref b1), (.ref b1)])) := K2.trans (by
    show Steps p.tables e below (T1.setTop (mkF m 3 #[.val (.long q0), .second, .val (.int p1), .val (.long q2), .second, .val (.long q3), .second, .unset, .unset, .unset, .unset, .unset, .unset, .unset, .unset, .unset, .unset, .unset] [(.ref b1)])) _
    refine XS.dup X1.here hx rfl (hb hby at_3) rfl rfl ?_
    show Steps p.tables e below (T1.setTop (mkF m 4 #[.val (.long q0), .second, .val (.int p1), .val (.long q2), .second, .val (.long q3), .second, .unset, .unset, .unset, .unset, .unset, .unset, .unset, .unset, .unset, .unset, .unset] [(.ref b1), (.ref b1)])) _
    refine XS.lloadN X1.here hx rfl (hb hby at_4) rfl ?_
    show Steps p.tables e below (T1.setTop (mkF m 5 #[.val (.long q0), .second, .val (.int p1), .val (.long q2), .second, .val (.long q3), .second, .unset, .unset, .unset, .unset, .unset, .unset, .unset, .unset, .unset, .unset, .unset] [(.long q0), (.ref b1), (.ref b1)])) _
    refine XS.iloadN X1.here hx rfl (hb hby at_5) rfl ?_
    show Steps p.tables e below (T1.setTop (mkF m 6 #[.val (.long q0), .second, .val (.int p1), .val (.long q2), .second, .val (.long q3), .second, .unset, .unset, .unset, .unset, .unset, .unset, .unset, .unset, .unset, .unset, .unset] [(.int p1), (.long q0), (.ref b1), (.ref b1)])) _
    exact Steps.refl _)
  have Z_4 : n0 ≤ h1.size := (Nat.le_trans Z0 E1.1)
  obtain ⟨_, _, ⟨T5, L5, k5, n5⟩, -, X5, ⟨Lc5, hQ5, l5, y5, z5⟩, st5⟩ := X1.specialBack hx (y := (⟨"com/example/modest_log/modestlog/log/TimeIndexEntry", "<init>", "(JI)V"⟩ : MethodName)) rfl hown (mvT hZ (hw _ (List.mem_of_getElem? (i := 3) rfl))) (mvT hZ (hw _ (List.mem_of_getElem? (i := 4) rfl))) (mvT hZ (hw _ (List.mem_of_getElem? (i := 5) rfl))) (by decide) (backOf (W := 1) (rm1 l Z a0 hw [] b1 q0 p1 (.long (0 : Int64)) (.int (0 : Int32)) h1 n0 Z_4 ge_b1 A1 F1_timestamp F1_relativeOffset) hZ (hw _ (List.mem_of_getElem? (i := 5) rfl)) (hw _ (List.mem_of_getElem? (i := 2) rfl)) (by decide) (by decide)) (g := (mkF m 6 #[.val (.long q0), .second, .val (.int p1), .val (.long q2), .second, .val (.long q3), .second, .unset, .unset, .unset, .unset, .unset, .unset, .unset, .unset, .unset, .unset, .unset] [(.int p1), (.long q0), (.ref b1), (.ref b1)])) rfl (by rw [hml]; rfl) K3 (a := b1) (argsL := [(.long q0), (.int p1)]) (rest := [(.ref b1)]) (lenOf pd_1 rfl) rfl (by show 2 * 0 + _ ≤ _; exact Nat.le_of_eq rfl) (hb hby at_6) (fun _ _ => ⟨rfl, e1, (by decide : 1 + 0 ≤ _), (by decide : 2 + 0 ≤ _)⟩)
  dsimp only [Pt.U, Pt.locs, Pt.cells, Pt.slots] at X5 l5 y5 z5 st5 hQ5
  subst l5 y5 z5
  obtain ⟨rfl, N5, Kp5, Q5_0, Q5_1, Q5_2⟩ := hQ5
  have N5' := Fr.app N0 N5
  have K6 : Steps p.tables e below _ (T5.setTop (mkF m 9 #[.val (.long q0), .second, .val (.int p1), .val (.long q2), .second, .val (.long q3), .second, .unset, .unset, .unset, .unset, .unset, .unset, .unset, .unset, .unset, .unset, .unset] [(.ref b1)])) := st5
  have K7 : Steps p.tables e below _ (T5.setTop (mkF m 14 #[.val (.long q0), .second, .val (.int p1), .val (.long q2), .second, .val (.long q3), .second, .val (.ref b1), .unset, .unset, .unset, .unset, .unset, .unset, .unset, .unset, .unset, .unset] [(.long q0), (.ref b1)])) := K6.trans (by
    show Steps p.tables e below (T5.setTop (mkF m 9 #[.val (.long q0), .second, .val (.int p1), .val (.long q2), .second, .val (.long q3), .second, .unset, .unset, .unset, .unset, .unset, .unset, .unset, .unset, .unset, .unset, .unset] [(.ref b1)])) _
    refine XS.astore X5.here hx rfl (hb hby at_9) rfl rfl (l' := #[.val (.long q0), .second, .val (.int p1), .val (.long q2), .second, .val (.long q3), .second, .val (.ref b1), .unset, .unset, .unset, .unset, .unset, .unset, .unset, .unset, .unset, .unset]) rfl ?_
    show Steps p.tables e below (T5.setTop (mkF m 11 #[.val (.long q0), .second, .val (.int p1), .val (.long q2), .second, .val (.long q3), .second, .val (.ref b1), .unset, .unset, .unset, .unset, .unset, .unset, .unset, .unset, .unset, .unset] [])) _
    refine XS.aload X5.here hx rfl (hb hby at_11) rfl rfl ?_
    show Steps p.tables e below (T5.setTop (mkF m 13 #[.val (.long q0), .second, .val (.int p1), .val (.long q2), .second, .val (.long q3), .second, .val (.ref b1), .unset, .unset, .unset, .unset, .unset, .unset, .unset, .unset, .unset, .unset] [(.ref b1)])) _
    refine XS.lloadN X5.here hx rfl (hb hby at_13) rfl ?_
    show Steps p.tables e below (T5.setTop (mkF m 14 #[.val (.long q0), .second, .val (.int p1), .val (.long q2), .second, .val (.long q3), .second, .val (.ref b1), .unset, .unset, .unset, .unset, .unset, .unset, .unset, .unset, .unset, .unset] [(.long q0), (.ref b1)])) _
    exact Steps.refl _)
  have Z_8 : n0 ≤ T5.heap.size := (Nat.le_trans Z_4 Kp5.1)
  obtain ⟨cq9, kq9, q9a, q9b, q9c⟩ := isOf hZ rfl Q5_0
  obtain ⟨_, _, ⟨T9, L9, k9, n9⟩, -, X9, ⟨Lc9, hQ9, l9, y9, z9⟩, st9⟩ := X5.virtualBack hx (y := (⟨"com/example/modest_log/modestlog/log/TimeIndexEntry", "isReachedBy", "(J)Z"⟩ : MethodName)) (z := (⟨"com/example/modest_log/modestlog/log/TimeIndexEntry", "isReachedBy", "(J)Z"⟩ : MethodName)) hown (mvT hZ (hw _ (List.mem_of_getElem? (i := 18) rfl))) (mvT hZ (hw _ (List.mem_of_getElem? (i := 19) rfl))) (notFace_of_selects (args := #[]) (mvT hZ (hw _ (List.mem_of_getElem? (i := 21) rfl)))) (mvT hZ (hw _ (List.mem_of_getElem? (i := 21) rfl))) (mvT hZ (hw _ (List.mem_of_getElem? (i := 20) rfl))) (by decide) (backOf (W := 0) (rm4 l Z a0 hw [] b1 q0 q0 T5.heap n0 Z_8 Q5_1) hZ (hw _ (List.mem_of_getElem? (i := 22) rfl)) (hw _ (List.mem_of_getElem? (i := 2) rfl)) (by decide) (by decide)) q9a q9c (g := (mkF m 14 #[.val (.long q0), .second, .val (.int p1), .val (.long q2), .second, .val (.long q3), .second, .val (.ref b1), .unset, .unset, .unset, .unset, .unset, .unset, .unset, .unset, .unset, .unset] [(.long q0), (.ref b1)])) rfl (by rw [hml]; rfl) K7 (argsL := [(.long q0)]) (rest := []) (lenOf pd_2 rfl) rfl (by show 2 * 0 + _ ≤ _; exact Nat.le_of_eq rfl) (hb hby at_14) (fun _ _ => ⟨rfl, rfl, (by decide : 1 + 0 ≤ _), (by decide : 2 + 0 ≤ _)⟩)
  dsimp only [Pt.U, Pt.locs, Pt.cells, Pt.slots] at X9 l9 y9 z9 st9 hQ9
  subst l9 y9 z9
  obtain ⟨rfl, N9, eh9⟩ := hQ9
  have N9' := Fr.app N5' N9
  have K11 : Steps p.tables e below _ (T9.setTop (mkF m 17 #[.val (.long q0), .second, .val (.int p1), .val (.long q2), .second, .val (.long q3), .second, .val (.ref b1), .unset, .unset, .unset, .unset, .unset, .unset, .unset, .unset, .unset, .unset] [(.int ((if q0 < q0 then (0 : Int32) else (1 : Int32)) &&& 1))])) := st9
  obtain ⟨r10, hr10⟩ : ∃ z : Int32, ((if q0 < q0 then (0 : Int32) else (1 : Int32)) &&& 1) = z := ⟨_, rfl⟩
  rw [hr10] at K11
  have K12 : Steps p.tables e below _ (T9.setTop (mkF m 28 #[.val (.long q0), .second, .val (.int p1), .val (.long q2), .second, .val (.long q3), .second, .val (.ref b1), .val (.int r10), .val (.long (q0 - (1 : Int64))), .second, .unset, .unset, .unset, .unset, .unset, .unset, .unset] [(.int (lcmpW (q0 - (1 : Int64)) q0))])) := K11.trans (by
    show Steps p.tables e below (T9.setTop (mkF m 17 #[.val (.long q0), .second, .val (.int p1), .val (.long q2), .second, .val (.long q3), .second, .val (.ref b1), .unset, .unset, .unset, .unset, .unset, .unset, .unset, .unset, .unset, .unset] [(.int r10)])) _
    refine XS.istore X9.here hx rfl (hb hby at_17) rfl (l' := #[.val (.long q0), .second, .val (.int p1), .val (.long q2), .second, .val (.long q3), .second, .val (.ref b1), .val (.int r10), .unset, .unset, .unset, .unset, .unset, .unset, .unset, .unset, .unset]) rfl ?_
    show Steps p.tables e below (T9.setTop (mkF m 19 #[.val (.long q0), .second, .val (.int p1), .val (.long q2), .second, .val (.long q3), .second, .val (.ref b1), .val (.int r10), .unset, .unset, .unset, .unset, .unset, .unset, .unset, .unset, .unset] [])) _
    refine XS.lloadN X9.here hx rfl (hb hby at_19) rfl ?_
    show Steps p.tables e below (T9.setTop (mkF m 20 #[.val (.long q0), .second, .val (.int p1), .val (.long q2), .second, .val (.long q3), .second, .val (.ref b1), .val (.int r10), .unset, .unset, .unset, .unset, .unset, .unset, .unset, .unset, .unset] [(.long q0)])) _
    refine XS.lconst X9.here hx rfl (hb hby at_20) ?_
    show Steps p.tables e below (T9.setTop (mkF m 21 #[.val (.long q0), .second, .val (.int p1), .val (.long q2), .second, .val (.long q3), .second, .val (.ref b1), .val (.int r10), .unset, .unset, .unset, .unset, .unset, .unset, .unset, .unset, .unset] [(.long (1 : Int64)), (.long q0)])) _
    refine XS.lsub X9.here hx rfl (hb hby at_21) rfl ?_
    show Steps p.tables e below (T9.setTop (mkF m 22 #[.val (.long q0), .second, .val (.int p1), .val (.long q2), .second, .val (.long q3), .second, .val (.ref b1), .val (.int r10), .unset, .unset, .unset, .unset, .unset, .unset, .unset, .unset, .unset] [(.long (q0 - (1 : Int64)))])) _
    refine XS.lstore X9.here hx rfl (hb hby at_22) rfl (l' := #[.val (.long q0), .second, .val (.int p1), .val (.long q2), .second, .val (.long q3), .second, .val (.ref b1), .val (.int r10), .val (.long (q0 - (1 : Int64))), .second, .unset, .unset, .unset, .unset, .unset, .unset, .unset]) rfl ?_
    show Steps p.tables e below (T9.setTop (mkF m 24 #[.val (.long q0), .second, .val (.int p1), .val (.long q2), .second, .val (.long q3), .second, .val (.ref b1), .val (.int r10), .val (.long (q0 - (1 : Int64))), .second, .unset, .unset, .unset, .unset, .unset, .unset, .unset] [])) _
    refine XS.lload X9.here hx rfl (hb hby at_24) rfl ?_
    show Steps p.tables e below (T9.setTop (mkF m 26 #[.val (.long q0), .second, .val (.int p1), .val (.long q2), .second, .val (.long q3), .second, .val (.ref b1), .val (.int r10), .val (.long (q0 - (1 : Int64))), .second, .unset, .unset, .unset, .unset, .unset, .unset, .unset] [(.long (q0 - (1 : Int64)))])) _
    refine XS.lloadN X9.here hx rfl (hb hby at_26) rfl ?_
    show Steps p.tables e below (T9.setTop (mkF m 27 #[.val (.long q0), .second, .val (.int p1), .val (.long q2), .second, .val (.long q3), .second, .val (.ref b1), .val (.int r10), .val (.long (q0 - (1 : Int64))), .second, .unset, .unset, .unset, .unset, .unset, .unset, .unset] [(.long q0), (.long (q0 - (1 : Int64)))])) _
    refine XS.lcmp X9.here hx rfl (hb hby at_27) rfl ?_
    show Steps p.tables e below (T9.setTop (mkF m 28 #[.val (.long q0), .second, .val (.int p1), .val (.long q2), .second, .val (.long q3), .second, .val (.ref b1), .val (.int r10), .val (.long (q0 - (1 : Int64))), .second, .unset, .unset, .unset, .unset, .unset, .unset, .unset] [(.int (lcmpW (q0 - (1 : Int64)) q0))])) _
    exact Steps.refl _)
  obtain ⟨T13, L13, v13_0, X13, e13, N13, hv13_0, S13⟩ : ∃ (T13 : State) (L13 : List Loc) (v13_0 : Int32), Stand p l e room_1 s m #[(.long q0), (.int p1), (.long q2), (.long q3)] below meth c T13 L13 1 2 ∧ T13.heap = T5.heap ∧ Fr n0 L13 ∧ (if (q0 - (1 : Int64)) < q0 then (if ((if (q0 - (1 : Int64)) < q0 then (0 : Int32) else (1 : Int32)) &&& 1) = (0 : Int32) then (0 : Int32) else (1 : Int32)) else (0 : Int32)) = v13_0 ∧ Steps p.tables e below (T9.setTop (mkF m 28 #[.val (.long q0), .second, .val (.int p1), .val (.long q2), .second, .val (.long q3), .second, .val (.ref b1), .val (.int r10), .val (.long (q0 - (1 : Int64))), .second, .unset, .unset, .unset, .unset, .unset, .unset, .unset] [(.int (lcmpW (q0 - (1 : Int64)) q0))])) (T13.setTop (mkF m 46 #[.val (.long q0), .second, .val (.int p1), .val (.long q2), .second, .val (.long q3), .second, .val (.ref b1), .val (.int r10), .val (.long (q0 - (1 : Int64))), .second, .unset, .unset, .unset, .unset, .unset, .unset, .unset] [(.int v13_0)])) := by
    have R13 : Steps p.tables e below (T9.setTop (mkF m 28 #[.val (.long q0), .second, .val (.int p1), .val (.long q2), .second, .val (.long q3), .second, .val (.ref b1), .val (.int r10), .val (.long (q0 - (1 : Int64))), .second, .unset, .unset, .unset, .unset, .unset, .unset, .unset] [(.int (lcmpW (q0 - (1 : Int64)) q0))])) (T9.setTop (mkF m 28 #[.val (.long q0), .second, .val (.int p1), .val (.long q2), .second, .val (.long q3), .second, .val (.ref b1), .val (.int r10), .val (.long (q0 - (1 : Int64))), .second, .unset, .unset, .unset, .unset, .unset, .unset, .unset] [(.int (lcmpW (q0 - (1 : Int64)) q0))])) := Steps.refl _
    by_cases hc28 : (q0 - (1 : Int64)) < q0
    · have K14 : Steps p.tables e below _ (T9.setTop (mkF m 35 #[.val (.long q0), .second, .val (.int p1), .val (.long q2), .second, .val (.long q3), .second, .val (.ref b1), .val (.int r10), .val (.long (q0 - (1 : Int64))), .second, .unset, .unset, .unset, .unset, .unset, .unset, .unset] [(.long (q0 - (1 : Int64))), (.ref b1)])) := R13.trans (by
        show Steps p.tables e below (T9.setTop (mkF m 28 #[.val (.long q0), .second, .val (.int p1), .val (.long q2), .second, .val (.long q3), .second, .val (.ref b1), .val (.int r10), .val (.long (q0 - (1 : Int64))), .second, .unset, .unset, .unset, .unset, .unset, .unset, .unset] [(.int (lcmpW (q0 - (1 : Int64)) q0))])) _
        refine XS.ifNo X9.here hx rfl (hb hby at_28) rfl ((if0 _ _).trans (tlt ((lw_lt (q0 - (1 : Int64)) q0).mpr hc28)).2.1) ?_
        show Steps p.tables e below (T9.setTop (mkF m 31 #[.val (.long q0), .second, .val (.int p1), .val (.long q2), .second, .val (.long q3), .second, .val (.ref b1), .val (.int r10), .val (.long (q0 - (1 : Int64))), .second, .unset, .unset, .unset, .unset, .unset, .unset, .unset] [])) _
        refine XS.aload X9.here hx rfl (hb hby at_31) rfl rfl ?_
        show Steps p.tables e below (T9.setTop (mkF m 33 #[.val (.long q0), .second, .val (.int p1), .val (.long q2), .second, .val (.long q3), .second, .val (.ref b1), .val (.int r10), .val (.long (q0 - (1 : Int64))), .second, .unset, .unset, .unset, .unset, .unset, .unset, .unset] [(.ref b1)])) _
        refine XS.lload X9.here hx rfl (hb hby at_33) rfl ?_
        show Steps p.tables e below (T9.setTop (mkF m 35 #[.val (.long q0), .second, .val (.int p1), .val (.long q2), .second, .val (.long q3), .second, .val (.ref b1), .val (.int r10), .val (.long (q0 - (1 : Int64))), .second, .unset, .unset, .unset, .unset, .unset, .unset, .unset] [(.long (q0 - (1 : Int64))), (.ref b1)])) _
        exact Steps.refl _)
      obtain ⟨cq15, kq15, q15a, q15b, q15c⟩ := isOf hZ eh9 Q5_0
      obtain ⟨_, _, ⟨T15, L15, k15, n15⟩, -, X15, ⟨Lc15, hQ15, l15, y15, z15⟩, st15⟩ := X9.virtualBack hx (y := (⟨"com/example/modest_log/modestlog/log/TimeIndexEntry", "isReachedBy", "(J)Z"⟩ : MethodName)) (z := (⟨"com/example/modest_log/modestlog/log/TimeIndexEntry", "isReachedBy", "(J)Z"⟩ : MethodName)) hown (mvT hZ (hw _ (List.mem_of_getElem? (i := 18) rfl))) (mvT hZ (hw _ (List.mem_of_getElem? (i := 19) rfl))) (notFace_of_selects (args := #[]) (mvT hZ (hw _ (List.mem_of_getElem? (i := 21) rfl)))) (mvT hZ (hw _ (List.mem_of_getElem? (i := 21) rfl))) (mvT hZ (hw _ (List.mem_of_getElem? (i := 20) rfl))) (by decide) (backOf (W := 0) (rm4 l Z a0 hw [] b1 (q0 - (1 : Int64)) q0 T5.heap n0 Z_8 Q5_1) hZ (hw _ (List.mem_of_getElem? (i := 22) rfl)) (hw _ (List.mem_of_getElem? (i := 2) rfl)) (by decide) (by decide)) q15a q15c (g := (mkF m 35 #[.val (.long q0), .second, .val (.int p1), .val (.long q2), .second, .val (.long q3), .second, .val (.ref b1), .val (.int r10), .val (.long (q0 - (1 : Int64))), .second, .unset, .unset, .unset, .unset, .unset, .unset, .unset] [(.long (q0 - (1 : Int64))), (.ref b1)])) rfl (by rw [hml]; rfl) K14 (argsL := [(.long (q0 - (1 : Int64)))]) (rest := []) (lenOf pd_2 rfl) rfl (by show 2 * 0 + _ ≤ _; exact Nat.le_of_eq rfl) (hb hby at_35) (fun _ _ => ⟨rfl, eh9, (by decide : 1 + 0 ≤ _), (by decide : 2 + 0 ≤ _)⟩)
      dsimp only [Pt.U, Pt.locs, Pt.cells, Pt.slots] at X15 l15 y15 z15 st15 hQ15
      subst l15 y15 z15
      obtain ⟨rfl, N15, eh15⟩ := hQ15
      have N15' := Fr.app N9' N15
      have K17 : Steps p.tables e below _ (T15.setTop (mkF m 38 #[.val (.long q0), .second, .val (.int p1), .val (.long q2), .second, .val (.long q3), .second, .val (.ref b1), .val (.int r10), .val (.long (q0 - (1 : Int64))), .second, .unset, .unset, .unset, .unset, .unset, .unset, .unset] [(.int ((if (q0 - (1 : Int64)) < q0 then (0 : Int32) else (1 : Int32)) &&& 1))])) := st15
      obtain ⟨r16, hr16⟩ : ∃ z : Int32, ((if (q0 - (1 : Int64)) < q0 then (0 : Int32) else (1 : Int32)) &&& 1) = z := ⟨_, rfl⟩
      rw [hr16] at K17
      by_cases hc38 : r16 = (0 : Int32)
      · have K18 : Steps p.tables e below _ (T15.setTop (mkF m 46 #[.val (.long q0), .second, .val (.int p1), .val (.long q2), .second, .val (.long q3), .second, .val (.ref b1), .val (.int r10), .val (.long (q0 - (1 : Int64))), .second, .unset, .unset, .unset, .unset, .unset, .unset, .unset] [(.int (0 : Int32))])) := K17.trans (by
          show Steps p.tables e below (T15.setTop (mkF m 38 #[.val (.long q0), .second, .val (.int p1), .val (.long q2), .second, .val (.long q3), .second, .val (.ref b1), .val (.int r10), .val (.long (q0 - (1 : Int64))), .second, .unset, .unset, .unset, .unset, .unset, .unset, .unset] [(.int r16)])) _
          refine XS.ifYes X15.here hx rfl (pc0 := 38) (pc' := 45) rfl (hb hby at_38) rfl ((if0 _ _).trans (teq hc38).1) (by decide) (by decide) ?_
          show Steps p.tables e below (T15.setTop (mkF m 45 #[.val (.long q0), .second, .val (.int p1), .val (.long q2), .second, .val (.long q3), .second, .val (.ref b1), .val (.int r10), .val (.long (q0 - (1 : Int64))), .second, .unset, .unset, .unset, .unset, .unset, .unset, .unset] [])) _
          refine XS.iconst X15.here hx rfl (hb hby at_45) ?_
          show Steps p.tables e below (T15.setTop (mkF m 46 #[.val (.long q0), .second, .val (.int p1), .val (.long q2), .second, .val (.long q3), .second, .val (.ref b1), .val (.int r10), .val (.long (q0 - (1 : Int64))), .second, .unset, .unset, .unset, .unset, .unset, .unset, .unset] [(.int (0 : Int32))])) _
          exact Steps.refl _)
        subst hr16
        exact ⟨T15, _, (0 : Int32), X15, eh15, N15', (by rw [if_pos hc28, if_pos hc38]), K18⟩
      · have K19 : Steps p.tables e below _ (T15.setTop (mkF m 46 #[.val (.long q0), .second, .val (.int p1), .val (.long q2), .second, .val (.long q3), .second, .val (.ref b1), .val (.int r10), .val (.long (q0 - (1 : Int64))), .second, .unset, .unset, .unset, .unset, .unset, .unset, .unset] [(.int (1 : Int32))])) := K17.trans (by
          show Steps p.tables e below (T15.setTop (mkF m 38 #[.val (.long q0), .second, .val (.int p1), .val (.long q2), .second, .val (.long q3), .second, .val (.ref b1), .val (.int r10), .val (.long (q0 - (1 : Int64))), .second, .unset, .unset, .unset, .unset, .unset, .unset, .unset] [(.int r16)])) _
          refine XS.ifNo X15.here hx rfl (hb hby at_38) rfl ((if0 _ _).trans (feq hc38).1) ?_
          show Steps p.tables e below (T15.setTop (mkF m 41 #[.val (.long q0), .second, .val (.int p1), .val (.long q2), .second, .val (.long q3), .second, .val (.ref b1), .val (.int r10), .val (.long (q0 - (1 : Int64))), .second, .unset, .unset, .unset, .unset, .unset, .unset, .unset] [])) _
          refine XS.iconst X15.here hx rfl (hb hby at_41) ?_
          show Steps p.tables e below (T15.setTop (mkF m 42 #[.val (.long q0), .second, .val (.int p1), .val (.long q2), .second, .val (.long q3), .second, .val (.ref b1), .val (.int r10), .val (.long (q0 - (1 : Int64))), .second, .unset, .unset, .unset, .unset, .unset, .unset, .unset] [(.int (1 : Int32))])) _
          refine XS.goto X15.here hx rfl (pc0 := 42) (pc' := 46) rfl (hb hby at_42) (by decide) (by decide) ?_
          show Steps p.tables e below (T15.setTop (mkF m 46 #[.val (.long q0), .second, .val (.int p1), .val (.long q2), .second, .val (.long q3), .second, .val (.ref b1), .val (.int r10), .val (.long (q0 - (1 : Int64))), .second, .unset, .unset, .unset, .unset, .unset, .unset, .unset] [(.int (1 : Int32))])) _
          exact Steps.refl _)
        subst hr16
        exact ⟨T15, _, (1 : Int32), X15, eh15, N15', (by rw [if_pos hc28, if_neg hc38]), K19⟩
    · have K20 : Steps p.tables e below _ (T9.setTop (mkF m 46 #[.val (.long q0), .second, .val (.int p1), .val (.long q2), .second, .val (.long q3), .second, .val (.ref b1), .val (.int r10), .val (.long (q0 - (1 : Int64))), .second, .unset, .unset, .unset, .unset, .unset, .unset, .unset] [(.int (0 : Int32))])) := R13.trans (by
        show Steps p.tables e below (T9.setTop (mkF m 28 #[.val (.long q0), .second, .val (.int p1), .val (.long q2), .second, .val (.long q3), .second, .val (.ref b1), .val (.int r10), .val (.long (q0 - (1 : Int64))), .second, .unset, .unset, .unset, .unset, .unset, .unset, .unset] [(.int (lcmpW (q0 - (1 : Int64)) q0))])) _
        refine XS.ifYes X9.here hx rfl (pc0 := 28) (pc' := 45) rfl (hb hby at_28) rfl ((if0 _ _).trans (flt (fun z => hc28 ((lw_lt (q0 - (1 : Int64)) q0).mp z))).2.1) (by decide) (by decide) ?_
        show Steps p.tables e below (T9.setTop (mkF m 45 #[.val (.long q0), .second, .val (.int p1), .val (.long q2), .second, .val (.long q3), .second, .val (.ref b1), .val (.int r10), .val (.long (q0 - (1 : Int64))), .second, .unset, .unset, .unset, .unset, .unset, .unset, .unset] [])) _
        refine XS.iconst X9.here hx rfl (hb hby at_45) ?_
        show Steps p.tables e below (T9.setTop (mkF m 46 #[.val (.long q0), .second, .val (.int p1), .val (.long q2), .second, .val (.long q3), .second, .val (.ref b1), .val (.int r10), .val (.long (q0 - (1 : Int64))), .second, .unset, .unset, .unset, .unset, .unset, .unset, .unset] [(.int (0 : Int32))])) _
        exact Steps.refl _)
      exact ⟨T9, _, (0 : Int32), X9, eh9, N9', (by rw [if_neg hc28]), K20⟩
  have K21 := K12.trans S13
  have K22 : Steps p.tables e below _ (T13.setTop (mkF m 51 #[.val (.long q0), .second, .val (.int p1), .val (.long q2), .second, .val (.long q3), .second, .val (.ref b1), .val (.int r10), .val (.long (q0 - (1 : Int64))), .second, .val (.int v13_0), .unset, .unset, .unset, .unset, .unset, .unset] [(.long q3), (.long q2)])) := K21.trans (by
    show Steps p.tables e below (T13.setTop (mkF m 46 #[.val (.long q0), .second, .val (.int p1), .val (.long q2), .second, .val (.long q3), .second, .val (.ref b1), .val (.int r10), .val (.long (q0 - (1 : Int64))), .second, .unset, .unset, .unset, .unset, .unset, .unset, .unset] [(.int v13_0)])) _
    refine XS.istore X13.here hx rfl (hb hby at_46) rfl (l' := #[.val (.long q0), .second, .val (.int p1), .val (.long q2), .second, .val (.long q3), .second, .val (.ref b1), .val (.int r10), .val (.long (q0 - (1 : Int64))), .second, .val (.int v13_0), .unset, .unset, .unset, .unset, .unset, .unset]) rfl ?_
    show Steps p.tables e below (T13.setTop (mkF m 48 #[.val (.long q0), .second, .val (.int p1), .val (.long q2), .second, .val (.long q3), .second, .val (.ref b1), .val (.int r10), .val (.long (q0 - (1 : Int64))), .second, .val (.int v13_0), .unset, .unset, .unset, .unset, .unset, .unset] [])) _
    refine XS.lloadN X13.here hx rfl (hb hby at_48) rfl ?_
    show Steps p.tables e below (T13.setTop (mkF m 49 #[.val (.long q0), .second, .val (.int p1), .val (.long q2), .second, .val (.long q3), .second, .val (.ref b1), .val (.int r10), .val (.long (q0 - (1 : Int64))), .second, .val (.int v13_0), .unset, .unset, .unset, .unset, .unset, .unset] [(.long q2)])) _
    refine XS.lload X13.here hx rfl (hb hby at_49) rfl ?_
    show Steps p.tables e below (T13.setTop (mkF m 51 #[.val (.long q0), .second, .val (.int p1), .val (.long q2), .second, .val (.long q3), .second, .val (.ref b1), .val (.int r10), .val (.long (q0 - (1 : Int64))), .second, .val (.int v13_0), .unset, .unset, .unset, .unset, .unset, .unset] [(.long q3), (.long q2)])) _
    exact Steps.refl _)
  obtain ⟨_, _, ⟨T23, L23, k23, n23⟩, -, X23, ⟨Lc23, hQ23, l23, y23, z23⟩, st23⟩ := Jvm.LawKit.callS X13 hx (y := (⟨"java/lang/Math", "min", "(JJ)J"⟩ : MethodName)) hown (mvT hZ (hw _ (List.mem_of_getElem? (i := 23) rfl))) (mvT hZ (hw _ (List.mem_of_getElem? (i := 24) rfl))) (mvT hZ (hw _ (List.mem_of_getElem? (i := 25) rfl))) (mvT hZ (hw _ (List.mem_of_getElem? (i := 26) rfl))) (by decide) (backOf (W := 0) (rm5 l Z a0 hw [] q2 q3 T5.heap n0 Z_8 ) hZ (hw _ (List.mem_of_getElem? (i := 26) rfl)) (hw _ (List.mem_of_getElem? (i := 25) rfl)) (by decide) (by decide)) (g := (mkF m 51 #[.val (.long q0), .second, .val (.int p1), .val (.long q2), .second, .val (.long q3), .second, .val (.ref b1), .val (.int r10), .val (.long (q0 - (1 : Int64))), .second, .val (.int v13_0), .unset, .unset, .unset, .unset, .unset, .unset] [(.long q3), (.long q2)])) rfl (by rw [hml]; rfl) (argsL := [(.long q2), (.long q3)]) (rest := []) (lenOf pd_3 rfl) rfl (by show 2 * 0 + _ ≤ _; exact Nat.le_of_eq rfl) (hb hby at_51) (fun _ _ => ⟨rfl, e13, (by decide : 1 + 0 ≤ _), (by decide : 2 + 0 ≤ _)⟩)
  dsimp only [Pt.U, Pt.locs, Pt.cells, Pt.slots] at X23 l23 y23 z23 st23 hQ23
  subst l23 y23 z23
  obtain ⟨rfl, N23, eh23⟩ := hQ23
  have N23' := Fr.app N13 N23
  have K25 : Steps p.tables e below _ (T23.setTop (mkF m 54 #[.val (.long q0), .second, .val (.int p1), .val (.long q2), .second, .val (.long q3), .second, .val (.ref b1), .val (.int r10), .val (.long (q0 - (1 : Int64))), .second, .val (.int v13_0), .unset, .unset, .unset, .unset, .unset, .unset] [(.long (if q3 < q2 then q3 else q2))])) := K22.trans (st23 _ (Steps.refl _))
  obtain ⟨r24, hr24⟩ : ∃ z : Int64, (if q3 < q2 then q3 else q2) = z := ⟨_, rfl⟩
  rw [hr24] at K25
  have K26 : Steps p.tables e below _ (T23.setTop (mkF m 59 #[.val (.long q0), .second, .val (.int p1), .val (.long q2), .second, .val (.long q3), .second, .val (.ref b1), .val (.int r10), .val (.long (q0 - (1 : Int64))), .second, .val (.int v13_0), .val (.long r24), .second, .unset, .unset, .unset, .unset] [(.long q3), (.long q2)])) := K25.trans (by
    show Steps p.tables e below (T23.setTop (mkF m 54 #[.val (.long q0), .second, .val (.int p1), .val (.long q2), .second, .val (.long q3), .second, .val (.ref b1), .val (.int r10), .val (.long (q0 - (1 : Int64))), .second, .val (.int v13_0), .unset, .unset, .unset, .unset, .unset, .unset] [(.long r24)])) _
    refine XS.lstore X23.here hx rfl (hb hby at_54) rfl (l' := #[.val (.long q0), .second, .val (.int p1), .val (.long q2), .second, .val (.long q3), .second, .val (.ref b1), .val (.int r10), .val (.long (q0 - (1 : Int64))), .second, .val (.int v13_0), .val (.long r24), .second, .unset, .unset, .unset, .unset]) rfl ?_
    show Steps p.tables e below (T23.setTop (mkF m 56 #[.val (.long q0), .second, .val (.int p1), .val (.long q2), .second, .val (.long q3), .second, .val (.ref b1), .val (.int r10), .val (.long (q0 - (1 : Int64))), .second, .val (.int v13_0), .val (.long r24), .second, .unset, .unset, .unset, .unset] [])) _
    refine XS.lloadN X23.here hx rfl (hb hby at_56) rfl ?_
    show Steps p.tables e below (T23.setTop (mkF m 57 #[.val (.long q0), .second, .val (.int p1), .val (.long q2), .second, .val (.long q3), .second, .val (.ref b1), .val (.int r10), .val (.long (q0 - (1 : Int64))), .second, .val (.int v13_0), .val (.long r24), .second, .unset, .unset, .unset, .unset] [(.long q2)])) _
    refine XS.lload X23.here hx rfl (hb hby at_57) rfl ?_
    show Steps p.tables e below (T23.setTop (mkF m 59 #[.val (.long q0), .second, .val (.int p1), .val (.long q2), .second, .val (.long q3), .second, .val (.ref b1), .val (.int r10), .val (.long (q0 - (1 : Int64))), .second, .val (.int v13_0), .val (.long r24), .second, .unset, .unset, .unset, .unset] [(.long q3), (.long q2)])) _
    exact Steps.refl _)
  obtain ⟨_, _, ⟨T27, L27, k27, n27⟩, -, X27, ⟨Lc27, hQ27, l27, y27, z27⟩, st27⟩ := Jvm.LawKit.callS X23 hx (y := (⟨"java/lang/Math", "max", "(JJ)J"⟩ : MethodName)) hown (mvT hZ (hw _ (List.mem_of_getElem? (i := 27) rfl))) (mvT hZ (hw _ (List.mem_of_getElem? (i := 28) rfl))) (mvT hZ (hw _ (List.mem_of_getElem? (i := 25) rfl))) (mvT hZ (hw _ (List.mem_of_getElem? (i := 29) rfl))) (by decide) (backOf (W := 0) (rm6 l Z a0 hw [] q2 q3 T5.heap n0 Z_8 ) hZ (hw _ (List.mem_of_getElem? (i := 29) rfl)) (hw _ (List.mem_of_getElem? (i := 25) rfl)) (by decide) (by decide)) (g := (mkF m 59 #[.val (.long q0), .second, .val (.int p1), .val (.long q2), .second, .val (.long q3), .second, .val (.ref b1), .val (.int r10), .val (.long (q0 - (1 : Int64))), .second, .val (.int v13_0), .val (.long r24), .second, .unset, .unset, .unset, .unset] [(.long q3), (.long q2)])) rfl (by rw [hml]; rfl) (argsL := [(.long q2), (.long q3)]) (rest := []) (lenOf pd_3 rfl) rfl (by show 2 * 0 + _ ≤ _; exact Nat.le_of_eq rfl) (hb hby at_59) (fun _ _ => ⟨rfl, eh23, (by decide : 1 + 0 ≤ _), (by decide : 2 + 0 ≤ _)⟩)
  dsimp only [Pt.U, Pt.locs, Pt.cells, Pt.slots] at X27 l27 y27 z27 st27 hQ27
  subst l27 y27 z27
  obtain ⟨rfl, N27, eh27⟩ := hQ27
  have N27' := Fr.app N23' N27
  have K29 : Steps p.tables e below _ (T27.setTop (mkF m 62 #[.val (.long q0), .second, .val (.int p1), .val (.long q2), .second, .val (.long q3), .second, .val (.ref b1), .val (.int r10), .val (.long (q0 - (1 : Int64))), .second, .val (.int v13_0), .val (.long r24), .second, .unset, .unset, .unset, .unset] [(.long (if q2 < q3 then q3 else q2))])) := K26.trans (st27 _ (Steps.refl _))
  obtain ⟨r28, hr28⟩ : ∃ z : Int64, (if q2 < q3 then q3 else q2) = z := ⟨_, rfl⟩
  rw [hr28] at K29
  have K30 : Steps p.tables e below _ (T27.setTop (mkF m 68 #[.val (.long q0), .second, .val (.int p1), .val (.long q2), .second, .val (.long q3), .second, .val (.ref b1), .val (.int r10), .val (.long (q0 - (1 : Int64))), .second, .val (.int v13_0), .val (.long r24), .second, .val (.long r28), .second, .unset, .unset] [(.long r24), (.ref b1)])) := K29.trans (by
    show Steps p.tables e below (T27.setTop (mkF m 62 #[.val (.long q0), .second, .val (.int p1), .val (.long q2), .second, .val (.long q3), .second, .val (.ref b1), .val (.int r10), .val (.long (q0 - (1 : Int64))), .second, .val (.int v13_0), .val (.long r24), .second, .unset, .unset, .unset, .unset] [(.long r28)])) _
    refine XS.lstore X27.here hx rfl (hb hby at_62) rfl (l' := #[.val (.long q0), .second, .val (.int p1), .val (.long q2), .second, .val (.long q3), .second, .val (.ref b1), .val (.int r10), .val (.long (q0 - (1 : Int64))), .second, .val (.int v13_0), .val (.long r24), .second, .val (.long r28), .second, .unset, .unset]) rfl ?_
    show Steps p.tables e below (T27.setTop (mkF m 64 #[.val (.long q0), .second, .val (.int p1), .val (.long q2), .second, .val (.long q3), .second, .val (.ref b1), .val (.int r10), .val (.long (q0 - (1 : Int64))), .second, .val (.int v13_0), .val (.long r24), .second, .val (.long r28), .second, .unset, .unset] [])) _
    refine XS.aload X27.here hx rfl (hb hby at_64) rfl rfl ?_
    show Steps p.tables e below (T27.setTop (mkF m 66 #[.val (.long q0), .second, .val (.int p1), .val (.long q2), .second, .val (.long q3), .second, .val (.ref b1), .val (.int r10), .val (.long (q0 - (1 : Int64))), .second, .val (.int v13_0), .val (.long r24), .second, .val (.long r28), .second, .unset, .unset] [(.ref b1)])) _
    refine XS.lload X27.here hx rfl (hb hby at_66) rfl ?_
    show Steps p.tables e below (T27.setTop (mkF m 68 #[.val (.long q0), .second, .val (.int p1), .val (.long q2), .second, .val (.long q3), .second, .val (.ref b1), .val (.int r10), .val (.long (q0 - (1 : Int64))), .second, .val (.int v13_0), .val (.long r24), .second, .val (.long r28), .second, .unset, .unset] [(.long r24), (.ref b1)])) _
    exact Steps.refl _)
  obtain ⟨cq31, kq31, q31a, q31b, q31c⟩ := isOf hZ eh27 Q5_0
  obtain ⟨_, _, ⟨T31, L31, k31, n31⟩, -, X31, ⟨Lc31, hQ31, l31, y31, z31⟩, st31⟩ := X27.virtualBack hx (y := (⟨"com/example/modest_log/modestlog/log/TimeIndexEntry", "isReachedBy", "(J)Z"⟩ : MethodName)) (z := (⟨"com/example/modest_log/modestlog/log/TimeIndexEntry", "isReachedBy", "(J)Z"⟩ : MethodName)) hown (mvT hZ (hw _ (List.mem_of_getElem? (i := 18) rfl))) (mvT hZ (hw _ (List.mem_of_getElem? (i := 19) rfl))) (notFace_of_selects (args := #[]) (mvT hZ (hw _ (List.mem_of_getElem? (i := 21) rfl)))) (mvT hZ (hw _ (List.mem_of_getElem? (i := 21) rfl))) (mvT hZ (hw _ (List.mem_of_getElem? (i := 20) rfl))) (by decide) (backOf (W := 0) (rm4 l Z a0 hw [] b1 r24 q0 T5.heap n0 Z_8 Q5_1) hZ (hw _ (List.mem_of_getElem? (i := 22) rfl)) (hw _ (List.mem_of_getElem? (i := 2) rfl)) (by decide) (by decide)) q31a q31c (g := (mkF m 68 #[.val (.long q0), .second, .val (.int p1), .val (.long q2), .second, .val (.long q3), .second, .val (.ref b1), .val (.int r10), .val (.long (q0 - (1 : Int64))), .second, .val (.int v13_0), .val (.long r24), .second, .val (.long r28), .second, .unset, .unset] [(.long r24), (.ref b1)])) rfl (by rw [hml]; rfl) K30 (argsL := [(.long r24)]) (rest := []) (lenOf pd_2 rfl) rfl (by show 2 * 0 + _ ≤ _; exact Nat.le_of_eq rfl) (hb hby at_68) (fun _ _ => ⟨rfl, eh27, (by decide : 1 + 0 ≤ _), (by decide : 2 + 0 ≤ _)⟩)
  dsimp only [Pt.U, Pt.locs, Pt.cells, Pt.slots] at X31 l31 y31 z31 st31 hQ31
  subst l31 y31 z31
  obtain ⟨rfl, N31, eh31⟩ := hQ31
  have N31' := Fr.app N27' N31
  have K33 : Steps p.tables e below _ (T31.setTop (mkF m 71 #[.val (.long q0), .second, .val (.int p1), .val (.long q2), .second, .val (.long q3), .second, .val (.ref b1), .val (.int r10), .val (.long (q0 - (1 : Int64))), .second, .val (.int v13_0), .val (.long r24), .second, .val (.long r28), .second, .unset, .unset] [(.int ((if r24 < q0 then (0 : Int32) else (1 : Int32)) &&& 1))])) := st31
  obtain ⟨r32, hr32⟩ : ∃ z : Int32, ((if r24 < q0 then (0 : Int32) else (1 : Int32)) &&& 1) = z := ⟨_, rfl⟩
  rw [hr32] at K33
  have K34 : Steps p.tables e below _ (T31.setTop (mkF m 77 #[.val (.long q0), .second, .val (.int p1), .val (.long q2), .second, .val (.long q3), .second, .val (.ref b1), .val (.int r10), .val (.long (q0 - (1 : Int64))), .second, .val (.int v13_0), .val (.long r24), .second, .val (.long r28), .second, .val (.int r32), .unset] [(.long r28), (.ref b1)])) := K33.trans (by
    show Steps p.tables e below (T31.setTop (mkF m 71 #[.val (.long q0), .second, .val (.int p1), .val (.long q2), .second, .val (.long q3), .second, .val (.ref b1), .val (.int r10), .val (.long (q0 - (1 : Int64))), .second, .val (.int v13_0), .val (.long r24), .second, .val (.long r28), .second, .unset, .unset] [(.int r32)])) _
    refine XS.istore X31.here hx rfl (hb hby at_71) rfl (l' := #[.val (.long q0), .second, .val (.int p1), .val (.long q2), .second, .val (.long q3), .second, .val (.ref b1), .val (.int r10), .val (.long (q0 - (1 : Int64))), .second, .val (.int v13_0), .val (.long r24), .second, .val (.long r28), .second, .val (.int r32), .unset]) rfl ?_
    show Steps p.tables e below (T31.setTop (mkF m 73 #[.val (.long q0), .second, .val (.int p1), .val (.long q2), .second, .val (.long q3), .second, .val (.ref b1), .val (.int r10), .val (.long (q0 - (1 : Int64))), .second, .val (.int v13_0), .val (.long r24), .second, .val (.long r28), .second, .val (.int r32), .unset] [])) _
    refine XS.aload X31.here hx rfl (hb hby at_73) rfl rfl ?_
    show Steps p.tables e below (T31.setTop (mkF m 75 #[.val (.long q0), .second, .val (.int p1), .val (.long q2), .second, .val (.long q3), .second, .val (.ref b1), .val (.int r10), .val (.long (q0 - (1 : Int64))), .second, .val (.int v13_0), .val (.long r24), .second, .val (.long r28), .second, .val (.int r32), .unset] [(.ref b1)])) _
    refine XS.lload X31.here hx rfl (hb hby at_75) rfl ?_
    show Steps p.tables e below (T31.setTop (mkF m 77 #[.val (.long q0), .second, .val (.int p1), .val (.long q2), .second, .val (.long q3), .second, .val (.ref b1), .val (.int r10), .val (.long (q0 - (1 : Int64))), .second, .val (.int v13_0), .val (.long r24), .second, .val (.long r28), .second, .val (.int r32), .unset] [(.long r28), (.ref b1)])) _
    exact Steps.refl _)
  obtain ⟨cq35, kq35, q35a, q35b, q35c⟩ := isOf hZ eh31 Q5_0
  obtain ⟨_, _, ⟨T35, L35, k35, n35⟩, -, X35, ⟨Lc35, hQ35, l35, y35, z35⟩, st35⟩ := X31.virtualBack hx (y := (⟨"com/example/modest_log/modestlog/log/TimeIndexEntry", "isReachedBy", "(J)Z"⟩ : MethodName)) (z := (⟨"com/example/modest_log/modestlog/log/TimeIndexEntry", "isReachedBy", "(J)Z"⟩ : MethodName)) hown (mvT hZ (hw _ (List.mem_of_getElem? (i := 18) rfl))) (mvT hZ (hw _ (List.mem_of_getElem? (i := 19) rfl))) (notFace_of_selects (args := #[]) (mvT hZ (hw _ (List.mem_of_getElem? (i := 21) rfl)))) (mvT hZ (hw _ (List.mem_of_getElem? (i := 21) rfl))) (mvT hZ (hw _ (List.mem_of_getElem? (i := 20) rfl))) (by decide) (backOf (W := 0) (rm4 l Z a0 hw [] b1 r28 q0 T5.heap n0 Z_8 Q5_1) hZ (hw _ (List.mem_of_getElem? (i := 22) rfl)) (hw _ (List.mem_of_getElem? (i := 2) rfl)) (by decide) (by decide)) q35a q35c (g := (mkF m 77 #[.val (.long q0), .second, .val (.int p1), .val (.long q2), .second, .val (.long q3), .second, .val (.ref b1), .val (.int r10), .val (.long (q0 - (1 : Int64))), .second, .val (.int v13_0), .val (.long r24), .second, .val (.long r28), .second, .val (.int r32), .unset] [(.long r28), (.ref b1)])) rfl (by rw [hml]; rfl) K34 (argsL := [(.long r28)]) (rest := []) (lenOf pd_2 rfl) rfl (by show 2 * 0 + _ ≤ _; exact Nat.le_of_eq rfl) (hb hby at_77) (fun _ _ => ⟨rfl, eh31, (by decide : 1 + 0 ≤ _), (by decide : 2 + 0 ≤ _)⟩)
  dsimp only [Pt.U, Pt.locs, Pt.cells, Pt.slots] at X35 l35 y35 z35 st35 hQ35
  subst l35 y35 z35
  obtain ⟨rfl, N35, eh35⟩ := hQ35
  have N35' := Fr.app N31' N35
  have K37 : Steps p.tables e below _ (T35.setTop (mkF m 80 #[.val (.long q0), .second, .val (.int p1), .val (.long q2), .second, .val (.long q3), .second, .val (.ref b1), .val (.int r10), .val (.long (q0 - (1 : Int64))), .second, .val (.int v13_0), .val (.long r24), .second, .val (.long r28), .second, .val (.int r32), .unset] [(.int ((if r28 < q0 then (0 : Int32) else (1 : Int32)) &&& 1))])) := st35
  obtain ⟨r36, hr36⟩ : ∃ z : Int32, ((if r28 < q0 then (0 : Int32) else (1 : Int32)) &&& 1) = z := ⟨_, rfl⟩
  rw [hr36] at K37
  have K38 : Steps p.tables e below _ (T35.setTop (mkF m 84 #[.val (.long q0), .second, .val (.int p1), .val (.long q2), .second, .val (.long q3), .second, .val (.ref b1), .val (.int r10), .val (.long (q0 - (1 : Int64))), .second, .val (.int v13_0), .val (.long r24), .second, .val (.long r28), .second, .val (.int r32), .val (.int r36)] [(.int r10)])) := K37.trans (by
    show Steps p.tables e below (T35.setTop (mkF m 80 #[.val (.long q0), .second, .val (.int p1), .val (.long q2), .second, .val (.long q3), .second, .val (.ref b1), .val (.int r10), .val (.long (q0 - (1 : Int64))), .second, .val (.int v13_0), .val (.long r24), .second, .val (.long r28), .second, .val (.int r32), .unset] [(.int r36)])) _
    refine XS.istore X35.here hx rfl (hb hby at_80) rfl (l' := #[.val (.long q0), .second, .val (.int p1), .val (.long q2), .second, .val (.long q3), .second, .val (.ref b1), .val (.int r10), .val (.long (q0 - (1 : Int64))), .second, .val (.int v13_0), .val (.long r24), .second, .val (.long r28), .second, .val (.int r32), .val (.int r36)]) rfl ?_
    show Steps p.tables e below (T35.setTop (mkF m 82 #[.val (.long q0), .second, .val (.int p1), .val (.long q2), .second, .val (.long q3), .second, .val (.ref b1), .val (.int r10), .val (.long (q0 - (1 : Int64))), .second, .val (.int v13_0), .val (.long r24), .second, .val (.long r28), .second, .val (.int r32), .val (.int r36)] [])) _
    refine XS.iload X35.here hx rfl (hb hby at_82) rfl ?_
    show Steps p.tables e below (T35.setTop (mkF m 84 #[.val (.long q0), .second, .val (.int p1), .val (.long q2), .second, .val (.long q3), .second, .val (.ref b1), .val (.int r10), .val (.long (q0 - (1 : Int64))), .second, .val (.int v13_0), .val (.long r24), .second, .val (.long r28), .second, .val (.int r32), .val (.int r36)] [(.int r10)])) _
    exact Steps.refl _)
  obtain ⟨v39_0, hv39_0, S39⟩ : ∃ (v39_0 : Int32), (if r10 = (0 : Int32) then (0 : Int32) else (if v13_0 = (0 : Int32) then (if r32 = (0 : Int32) then (1 : Int32) else (if r36 = (0 : Int32) then (0 : Int32) else (1 : Int32))) else (0 : Int32))) = v39_0 ∧ Steps p.tables e below (T35.setTop (mkF m 84 #[.val (.long q0), .second, .val (.int p1), .val (.long q2), .second, .val (.long q3), .second, .val (.ref b1), .val (.int r10), .val (.long (q0 - (1 : Int64))), .second, .val (.int v13_0), .val (.long r24), .second, .val (.long r28), .second, .val (.int r32), .val (.int r36)] [(.int r10)])) (T35.setTop (mkF m 107 #[.val (.long q0), .second, .val (.int p1), .val (.long q2), .second, .val (.long q3), .second, .val (.ref b1), .val (.int r10), .val (.long (q0 - (1 : Int64))), .second, .val (.int v13_0), .val (.long r24), .second, .val (.long r28), .second, .val (.int r32), .val (.int r36)] [(.int v39_0)])) := by
    have R39 : Steps p.tables e below (T35.setTop (mkF m 84 #[.val (.long q0), .second, .val (.int p1), .val (.long q2), .second, .val (.long q3), .second, .val (.ref b1), .val (.int r10), .val (.long (q0 - (1 : Int64))), .second, .val (.int v13_0), .val (.long r24), .second, .val (.long r28), .second, .val (.int r32), .val (.int r36)] [(.int r10)])) (T35.setTop (mkF m 84 #[.val (.long q0), .second, .val (.int p1), .val (.long q2), .second, .val (.long q3), .second, .val (.ref b1), .val (.int r10), .val (.long (q0 - (1 : Int64))), .second, .val (.int v13_0), .val (.long r24), .second, .val (.long r28), .second, .val (.int r32), .val (.int r36)] [(.int r10)])) := Steps.refl _
    by_cases hc84 : r10 = (0 : Int32)
    · have K40 : Steps p.tables e below _ (T35.setTop (mkF m 107 #[.val (.long q0), .second, .val (.int p1), .val (.long q2), .second, .val (.long q3), .second, .val (.ref b1), .val (.int r10), .val (.long (q0 - (1 : Int64))), .second, .val (.int v13_0), .val (.long r24), .second, .val (.long r28), .second, .val (.int r32), .val (.int r36)] [(.int (0 : Int32))])) := R39.trans (by
        show Steps p.tables e below (T35.setTop (mkF m 84 #[.val (.long q0), .second, .val (.int p1), .val (.long q2), .second, .val (.long q3), .second, .val (.ref b1), .val (.int r10), .val (.long (q0 - (1 : Int64))), .second, .val (.int v13_0), .val (.long r24), .second, .val (.long r28), .second, .val (.int r32), .val (.int r36)] [(.int r10)])) _
        refine XS.ifYes X35.here hx rfl (pc0 := 84) (pc' := 106) rfl (hb hby at_84) rfl ((if0 _ _).trans (teq hc84).1) (by decide) (by decide) ?_
        show Steps p.tables e below (T35.setTop (mkF m 106 #[.val (.long q0), .second, .val (.int p1), .val (.long q2), .second, .val (.long q3), .second, .val (.ref b1), .val (.int r10), .val (.long (q0 - (1 : Int64))), .second, .val (.int v13_0), .val (.long r24), .second, .val (.long r28), .second, .val (.int r32), .val (.int r36)] [])) _
        refine XS.iconst X35.here hx rfl (hb hby at_106) ?_
        show Steps p.tables e below (T35.setTop (mkF m 107 #[.val (.long q0), .second, .val (.int p1), .val (.long q2), .second, .val (.long q3), .second, .val (.ref b1), .val (.int r10), .val (.long (q0 - (1 : Int64))), .second, .val (.int v13_0), .val (.long r24), .second, .val (.long r28), .second, .val (.int r32), .val (.int r36)] [(.int (0 : Int32))])) _
        exact Steps.refl _)
      exact ⟨(0 : Int32), (by rw [if_pos hc84]), K40⟩
    · have K41 : Steps p.tables e below _ (T35.setTop (mkF m 89 #[.val (.long q0), .second, .val (.int p1), .val (.long q2), .second, .val (.long q3), .second, .val (.ref b1), .val (.int r10), .val (.long (q0 - (1 : Int64))), .second, .val (.int v13_0), .val (.long r24), .second, .val (.long r28), .second, .val (.int r32), .val (.int r36)] [(.int v13_0)])) := R39.trans (by
        show Steps p.tables e below (T35.setTop (mkF m 84 #[.val (.long q0), .second, .val (.int p1), .val (.long q2), .second, .val (.long q3), .second, .val (.ref b1), .val (.int r10), .val (.long (q0 - (1 : Int64))), .second, .val (.int v13_0), .val (.long r24), .second, .val (.long r28), .second, .val (.int r32), .val (.int r36)] [(.int r10)])) _
        refine XS.ifNo X35.here hx rfl (hb hby at_84) rfl ((if0 _ _).trans (feq hc84).1) ?_
        show Steps p.tables e below (T35.setTop (mkF m 87 #[.val (.long q0), .second, .val (.int p1), .val (.long q2), .second, .val (.long q3), .second, .val (.ref b1), .val (.int r10), .val (.long (q0 - (1 : Int64))), .second, .val (.int v13_0), .val (.long r24), .second, .val (.long r28), .second, .val (.int r32), .val (.int r36)] [])) _
        refine XS.iload X35.here hx rfl (hb hby at_87) rfl ?_
        show Steps p.tables e below (T35.setTop (mkF m 89 #[.val (.long q0), .second, .val (.int p1), .val (.long q2), .second, .val (.long q3), .second, .val (.ref b1), .val (.int r10), .val (.long (q0 - (1 : Int64))), .second, .val (.int v13_0), .val (.long r24), .second, .val (.long r28), .second, .val (.int r32), .val (.int r36)] [(.int v13_0)])) _
        exact Steps.refl _)
      by_cases hc89 : v13_0 = (0 : Int32)
      · have K42 : Steps p.tables e below _ (T35.setTop (mkF m 94 #[.val (.long q0), .second, .val (.int p1), .val (.long q2), .second, .val (.long q3), .second, .val (.ref b1), .val (.int r10), .val (.long (q0 - (1 : Int64))), .second, .val (.int v13_0), .val (.long r24), .second, .val (.long r28), .second, .val (.int r32), .val (.int r36)] [(.int r32)])) := K41.trans (by
          show Steps p.tables e below (T35.setTop (mkF m 89 #[.val (.long q0), .second, .val (.int p1), .val (.long q2), .second, .val (.long q3), .second, .val (.ref b1), .val (.int r10), .val (.long (q0 - (1 : Int64))), .second, .val (.int v13_0), .val (.long r24), .second, .val (.long r28), .second, .val (.int r32), .val (.int r36)] [(.int v13_0)])) _
          refine XS.ifNo X35.here hx rfl (hb hby at_89) rfl ((if0 _ _).trans (teq hc89).2) ?_
          show Steps p.tables e below (T35.setTop (mkF m 92 #[.val (.long q0), .second, .val (.int p1), .val (.long q2), .second, .val (.long q3), .second, .val (.ref b1), .val (.int r10), .val (.long (q0 - (1 : Int64))), .second, .val (.int v13_0), .val (.long r24), .second, .val (.long r28), .second, .val (.int r32), .val (.int r36)] [])) _
          refine XS.iload X35.here hx rfl (hb hby at_92) rfl ?_
          show Steps p.tables e below (T35.setTop (mkF m 94 #[.val (.long q0), .second, .val (.int p1), .val (.long q2), .second, .val (.long q3), .second, .val (.ref b1), .val (.int r10), .val (.long (q0 - (1 : Int64))), .second, .val (.int v13_0), .val (.long r24), .second, .val (.long r28), .second, .val (.int r32), .val (.int r36)] [(.int r32)])) _
          exact Steps.refl _)
        by_cases hc94 : r32 = (0 : Int32)
        · have K43 : Steps p.tables e below _ (T35.setTop (mkF m 107 #[.val (.long q0), .second, .val (.int p1), .val (.long q2), .second, .val (.long q3), .second, .val (.ref b1), .val (.int r10), .val (.long (q0 - (1 : Int64))), .second, .val (.int v13_0), .val (.long r24), .second, .val (.long r28), .second, .val (.int r32), .val (.int r36)] [(.int (1 : Int32))])) := K42.trans (by
            show Steps p.tables e below (T35.setTop (mkF m 94 #[.val (.long q0), .second, .val (.int p1), .val (.long q2), .second, .val (.long q3), .second, .val (.ref b1), .val (.int r10), .val (.long (q0 - (1 : Int64))), .second, .val (.int v13_0), .val (.long r24), .second, .val (.long r28), .second, .val (.int r32), .val (.int r36)] [(.int r32)])) _
            refine XS.ifYes X35.here hx rfl (pc0 := 94) (pc' := 102) rfl (hb hby at_94) rfl ((if0 _ _).trans (teq hc94).1) (by decide) (by decide) ?_
            show Steps p.tables e below (T35.setTop (mkF m 102 #[.val (.long q0), .second, .val (.int p1), .val (.long q2), .second, .val (.long q3), .second, .val (.ref b1), .val (.int r10), .val (.long (q0 - (1 : Int64))), .second, .val (.int v13_0), .val (.long r24), .second, .val (.long r28), .second, .val (.int r32), .val (.int r36)] [])) _
            refine XS.iconst X35.here hx rfl (hb hby at_102) ?_
            show Steps p.tables e below (T35.setTop (mkF m 103 #[.val (.long q0), .second, .val (.int p1), .val (.long q2), .second, .val (.long q3), .second, .val (.ref b1), .val (.int r10), .val (.long (q0 - (1 : Int64))), .second, .val (.int v13_0), .val (.long r24), .second, .val (.long r28), .second, .val (.int r32), .val (.int r36)] [(.int (1 : Int32))])) _
            refine XS.goto X35.here hx rfl (pc0 := 103) (pc' := 107) rfl (hb hby at_103) (by decide) (by decide) ?_
            show Steps p.tables e below (T35.setTop (mkF m 107 #[.val (.long q0), .second, .val (.int p1), .val (.long q2), .second, .val (.long q3), .second, .val (.ref b1), .val (.int r10), .val (.long (q0 - (1 : Int64))), .second, .val (.int v13_0), .val (.long r24), .second, .val (.long r28), .second, .val (.int r32), .val (.int r36)] [(.int (1 : Int32))])) _
            exact Steps.refl _)
          exact ⟨(1 : Int32), (by rw [if_neg hc84, if_pos hc89, if_pos hc94]), K43⟩
        · have K44 : Steps p.tables e below _ (T35.setTop (mkF m 99 #[.val (.long q0), .second, .val (.int p1), .val (.long q2), .second, .val (.long q3), .second, .val (.ref b1), .val (.int r10), .val (.long (q0 - (1 : Int64))), .second, .val (.int v13_0), .val (.long r24), .second, .val (.long r28), .second, .val (.int r32), .val (.int r36)] [(.int r36)])) := K42.trans (by
            show Steps p.tables e below (T35.setTop (mkF m 94 #[.val (.long q0), .second, .val (.int p1), .val (.long q2), .second, .val (.long q3), .second, .val (.ref b1), .val (.int r10), .val (.long (q0 - (1 : Int64))), .second, .val (.int v13_0), .val (.long r24), .second, .val (.long r28), .second, .val (.int r32), .val (.int r36)] [(.int r32)])) _
            refine XS.ifNo X35.here hx rfl (hb hby at_94) rfl ((if0 _ _).trans (feq hc94).1) ?_
            show Steps p.tables e below (T35.setTop (mkF m 97 #[.val (.long q0), .second, .val (.int p1), .val (.long q2), .second, .val (.long q3), .second, .val (.ref b1), .val (.int r10), .val (.long (q0 - (1 : Int64))), .second, .val (.int v13_0), .val (.long r24), .second, .val (.long r28), .second, .val (.int r32), .val (.int r36)] [])) _
            refine XS.iload X35.here hx rfl (hb hby at_97) rfl ?_
            show Steps p.tables e below (T35.setTop (mkF m 99 #[.val (.long q0), .second, .val (.int p1), .val (.long q2), .second, .val (.long q3), .second, .val (.ref b1), .val (.int r10), .val (.long (q0 - (1 : Int64))), .second, .val (.int v13_0), .val (.long r24), .second, .val (.long r28), .second, .val (.int r32), .val (.int r36)] [(.int r36)])) _
            exact Steps.refl _)
          by_cases hc99 : r36 = (0 : Int32)
          · have K45 : Steps p.tables e below _ (T35.setTop (mkF m 107 #[.val (.long q0), .second, .val (.int p1), .val (.long q2), .second, .val (.long q3), .second, .val (.ref b1), .val (.int r10), .val (.long (q0 - (1 : Int64))), .second, .val (.int v13_0), .val (.long r24), .second, .val (.long r28), .second, .val (.int r32), .val (.int r36)] [(.int (0 : Int32))])) := K44.trans (by
              show Steps p.tables e below (T35.setTop (mkF m 99 #[.val (.long q0), .second, .val (.int p1), .val (.long q2), .second, .val (.long q3), .second, .val (.ref b1), .val (.int r10), .val (.long (q0 - (1 : Int64))), .second, .val (.int v13_0), .val (.long r24), .second, .val (.long r28), .second, .val (.int r32), .val (.int r36)] [(.int r36)])) _
              refine XS.ifYes X35.here hx rfl (pc0 := 99) (pc' := 106) rfl (hb hby at_99) rfl ((if0 _ _).trans (teq hc99).1) (by decide) (by decide) ?_
              show Steps p.tables e below (T35.setTop (mkF m 106 #[.val (.long q0), .second, .val (.int p1), .val (.long q2), .second, .val (.long q3), .second, .val (.ref b1), .val (.int r10), .val (.long (q0 - (1 : Int64))), .second, .val (.int v13_0), .val (.long r24), .second, .val (.long r28), .second, .val (.int r32), .val (.int r36)] [])) _
              refine XS.iconst X35.here hx rfl (hb hby at_106) ?_
              show Steps p.tables e below (T35.setTop (mkF m 107 #[.val (.long q0), .second, .val (.int p1), .val (.long q2), .second, .val (.long q3), .second, .val (.ref b1), .val (.int r10), .val (.long (q0 - (1 : Int64))), .second, .val (.int v13_0), .val (.long r24), .second, .val (.long r28), .second, .val (.int r32), .val (.int r36)] [(.int (0 : Int32))])) _
              exact Steps.refl _)
            exact ⟨(0 : Int32), (by rw [if_neg hc84, if_pos hc89, if_neg hc94, if_pos hc99]), K45⟩
          · have K46 : Steps p.tables e below _ (T35.setTop (mkF m 107 #[.val (.long q0), .second, .val (.int p1), .val (.long q2), .second, .val (.long q3), .second, .val (.ref b1), .val (.int r10), .val (.long (q0 - (1 : Int64))), .second, .val (.int v13_0), .val (.long r24), .second, .val (.long r28), .second, .val (.int r32), .val (.int r36)] [(.int (1 : Int32))])) := K44.trans (by
              show Steps p.tables e below (T35.setTop (mkF m 99 #[.val (.long q0), .second, .val (.int p1), .val (.long q2), .second, .val (.long q3), .second, .val (.ref b1), .val (.int r10), .val (.long (q0 - (1 : Int64))), .second, .val (.int v13_0), .val (.long r24), .second, .val (.long r28), .second, .val (.int r32), .val (.int r36)] [(.int r36)])) _
              refine XS.ifNo X35.here hx rfl (hb hby at_99) rfl ((if0 _ _).trans (feq hc99).1) ?_
              show Steps p.tables e below (T35.setTop (mkF m 102 #[.val (.long q0), .second, .val (.int p1), .val (.long q2), .second, .val (.long q3), .second, .val (.ref b1), .val (.int r10), .val (.long (q0 - (1 : Int64))), .second, .val (.int v13_0), .val (.long r24), .second, .val (.long r28), .second, .val (.int r32), .val (.int r36)] [])) _
              refine XS.iconst X35.here hx rfl (hb hby at_102) ?_
              show Steps p.tables e below (T35.setTop (mkF m 103 #[.val (.long q0), .second, .val (.int p1), .val (.long q2), .second, .val (.long q3), .second, .val (.ref b1), .val (.int r10), .val (.long (q0 - (1 : Int64))), .second, .val (.int v13_0), .val (.long r24), .second, .val (.long r28), .second, .val (.int r32), .val (.int r36)] [(.int (1 : Int32))])) _
              refine XS.goto X35.here hx rfl (pc0 := 103) (pc' := 107) rfl (hb hby at_103) (by decide) (by decide) ?_
              show Steps p.tables e below (T35.setTop (mkF m 107 #[.val (.long q0), .second, .val (.int p1), .val (.long q2), .second, .val (.long q3), .second, .val (.ref b1), .val (.int r10), .val (.long (q0 - (1 : Int64))), .second, .val (.int v13_0), .val (.long r24), .second, .val (.long r28), .second, .val (.int r32), .val (.int r36)] [(.int (1 : Int32))])) _
              exact Steps.refl _)
            exact ⟨(1 : Int32), (by rw [if_neg hc84, if_pos hc89, if_neg hc94, if_neg hc99]), K46⟩
      · have K47 : Steps p.tables e below _ (T35.setTop (mkF m 107 #[.val (.long q0), .second, .val (.int p1), .val (.long q2), .second, .val (.long q3), .second, .val (.ref b1), .val (.int r10), .val (.long (q0 - (1 : Int64))), .second, .val (.int v13_0), .val (.long r24), .second, .val (.long r28), .second, .val (.int r32), .val (.int r36)] [(.int (0 : Int32))])) := K41.trans (by
          show Steps p.tables e below (T35.setTop (mkF m 89 #[.val (.long q0), .second, .val (.int p1), .val (.long q2), .second, .val (.long q3), .second, .val (.ref b1), .val (.int r10), .val (.long (q0 - (1 : Int64))), .second, .val (.int v13_0), .val (.long r24), .second, .val (.long r28), .second, .val (.int r32), .val (.int r36)] [(.int v13_0)])) _
          refine XS.ifYes X35.here hx rfl (pc0 := 89) (pc' := 106) rfl (hb hby at_89) rfl ((if0 _ _).trans (feq hc89).2) (by decide) (by decide) ?_
          show Steps p.tables e below (T35.setTop (mkF m 106 #[.val (.long q0), .second, .val (.int p1), .val (.long q2), .second, .val (.long q3), .second, .val (.ref b1), .val (.int r10), .val (.long (q0 - (1 : Int64))), .second, .val (.int v13_0), .val (.long r24), .second, .val (.long r28), .second, .val (.int r32), .val (.int r36)] [])) _
          refine XS.iconst X35.here hx rfl (hb hby at_106) ?_
          show Steps p.tables e below (T35.setTop (mkF m 107 #[.val (.long q0), .second, .val (.int p1), .val (.long q2), .second, .val (.long q3), .second, .val (.ref b1), .val (.int r10), .val (.long (q0 - (1 : Int64))), .second, .val (.int v13_0), .val (.long r24), .second, .val (.long r28), .second, .val (.int r32), .val (.int r36)] [(.int (0 : Int32))])) _
          exact Steps.refl _)
        exact ⟨(0 : Int32), (by rw [if_neg hc84, if_neg hc89]), K47⟩
  have K48 := K38.trans S39
  have hone : (v39_0 &&& 1) = (1 : Int32) := own_law_0 q0 p1 q2 q3 r10 v13_0 r24 r28 r32 r36 v39_0 hr10 hv13_0 hr24 hr28 hr32 hr36 hv39_0
  obtain ⟨fs, hr, hrun, hended, hW, hsame⟩ := X35.leave (v := some (.int (v39_0 &&& 1))) (fun h => by rw [Bd.returns] at h; cases h)
  exact ⟨_, _, K48.trans (retN X35 hx (t := .boolean) Bd.returns (by simp) (hb hby at_107) hr), hrun, hended, _, _, rfl, ⟨by rw [hone], N35'⟩, ⟨_, rfl⟩, hW, hsame.mono (by decide) (by decide)⟩
set_option maxRecDepth 65536 in
set_option maxHeartbeats 40000000 in
theorem comes_1 {Post : Tables → Env → Array Value → State → Outcome → State → Prop} (hpost : ∀ tb e args s v u, (limb_1_1.after args s (.returned v) u = true ∧ limb_1_2.after args s (.returned v) u = true ∧ True) → FrameEnd s (.returned v) u (Jvm.fieldLocs frame_1_writes args s ++ Jvm.arrayLocs frame_1_arrays args s ++ Jvm.staticLocs frame_1_statics s) 16 128 → Post tb e args s (.returned v) u) :
    ArmFor flags0 classFile x code maxLocals ret World_1 tables_1 room_1 Calls_1 rest_1 Pre_1 Post := by
  intro l hfl _ _ p e ha hc hk s m args below hf hA hF happ hP
  obtain ⟨hcalls, hrest, hpre⟩ := hP
  obtain ⟨-, -, -, hnamed, -, -, -, hat⟩ := (Spec.applies_iff hf).mp happ
  obtain ⟨hg, hn⟩ := and_e (Cond.before_iff.mp (show (Jvm.Cond.and given_1 narrow_1).before args s = true from hpre))
  obtain ⟨g1, g2⟩ := and_e hg
  obtain ⟨g3, g4⟩ := and_e g2
  obtain ⟨g5, g6⟩ := and_e g4
  obtain ⟨g7, g8⟩ := and_e g6
  obtain ⟨w0, w1, w2, w3, rfl⟩ : ∃ w0 w1 w2 w3 : Value, args = #[w0, w1, w2, w3] := by
    have hs : args.size = 4 := by simpa [Cond.value, given_1] using g1
    obtain ⟨L⟩ := args
    match L, hs with
    | [w0, w1, w2, w3], _ => exact ⟨w0, w1, w2, w3, rfl⟩
  have hw := fun d (hd : d ∈ tables_1) => atoms_spec (ws := Jvm.Cond.code x code maxLocals ret :: tables_1) hat d (List.mem_cons_of_mem _ hd)
  obtain ⟨i0, ei0⟩ := isL_v g3
  obtain rfl : w0 = (.long i0) := Option.some.inj ei0
  obtain ⟨i1, ei1⟩ := is_v g5
  obtain rfl : w1 = (.int i1) := Option.some.inj ei1
  obtain ⟨i2, ei2⟩ := isL_v g7
  obtain rfl : w2 = (.long i2) := Option.some.inj ei2
  obtain ⟨i3, ei3⟩ := isL_v g8
  obtain rfl : w3 = (.long i3) := Option.some.inj ei3
  obtain ⟨n, o, h1, h2, h3, _, L, rfl, ⟨rfl, N⟩, hq⟩ := rm0 l s _ hw tables_1 i0 i1 i2 i3 s.heap s.heap.size (Nat.le_refl _) p e ha hc hk s m _ below hf ((Spec.applies_iff_loose hf).mp happ).1 ⟨rfl, State.Warmed39.refl s, rfl⟩ trivial
  refine ⟨n, _, h1, h2, h3, hpost _ _ _ _ _ _ ⟨Cond.after_iff.mpr rfl, Cond.after_iff.mpr (eq_i res_at (Term.int_eval (1)) rfl), trivial⟩ ⟨hq.1, hq.2.1, (hq.2.2.sift fun y hy => Or.inr (N y hy)).mono (by decide) (by decide)⟩⟩
theorem main_1_1 : Claimed_1_1 := comes_1 fun _ _ _ _ _ _ h hF => ⟨h.1, hF⟩
theorem main_1_2 : Claimed_1_2 := comes_1 fun _ _ _ _ _ _ h hF => ⟨h.2.1, hF⟩
end Jvm.Pilot.@@N@@
namespace Jvm.Pilot.@@N@@
open Jvm Jvm.ClassFile Sem Op Lib Jvm.Free Jvm.Stand Jvm.Pilot.@@N@@.Jvm.D
/-! MADE BY PROGRAM (witnessworld.py) out of the Statement's table words and the real class files: 11 classes; the members and pool entries that the words name. The judged class is class 1, her method 1. -/
namespace start1
open Jvm.ClassFile
def u (s : String) : CpInfo := .utf8 (stringToUtf16 s)
/-- a pool by its gaps: so many unusable entries, then the entry; so many at the end -/
def gap : Nat → List CpInfo → List CpInfo
  | 0, r => r
  | n + 1, r => .unusable :: gap n r
def poolList (es : List (Nat × CpInfo)) (last : Nat) : List CpInfo := es.foldr (fun e r => gap e.1 (e.2 :: r)) (gap last [])
def pool (es : List (Nat × CpInfo)) (last : Nat) : Array CpInfo := ⟨poolList es last⟩
def fileOf (pool : Array CpInfo) (this : Nat) (attrs : Array Attribute := #[]) (ms : Array MethodInfo := #[]) (fl : Nat := 33) (sup : Nat := 0) (ifs : Array Nat := #[]) (fds : Array FieldInfo := #[]) : ClassFile where
  minorVersion := 0
  majorVersion := 65
  constantPool := pool
  accessFlags := fl
  thisClass := this
  superClass := sup
  interfaces := ifs
  fields := fds
  methods := ms
  attributes := attrs
def plain (name : String) (sup : Option ClassId) : Class where
  name := name
  kind := .ordinary
  loader := none
  accessFlags := 33
  super := sup
  interfaces := #[]
  cf := none
  fields := #[]
  methods := #[]
  instanceTypes := #[]
  staticTypes := #[]
  resolved := #[]
  callSites := []
  init := .initialized
  statics := none
  mirror := none

def pool0 : Array CpInfo := pool [(5, u "<init>"), (0, u "()V"), (1, .class_ 10), (1, u "java/lang/Object")] 113

def k0c0 : Code := { maxStack := 0, maxLocals := 1, code := object_method_1_code, exceptionTable := #[], attributes := #[] }
def k0m0 : Method := { name := "<init>", desc := "()V", sig := { parameters := [], returnType := none }, accessFlags := 1, code := some k0c0 }
/-- java/lang/Object -/
def k0 : Class := { plain "java/lang/Object" none with
  accessFlags := 33
  interfaces := #[]
  cf := some (fileOf pool0 8 #[] #[{ accessFlags := 1, nameIndex := 5, descriptorIndex := 6, attributes := #[] }] 33 0 #[] #[])
  fields := #[]
  methods := #[k0m0]
  instanceTypes := #[]
  staticTypes := #[]
  resolved := Array.replicate 124 none
  statics := none }

def pool1 : Array CpInfo := pool [(2, .class_ 4), (1, u "java/lang/Object"), (0, u "<init>"), (0, u "()V"), (0, .class_ 8), (0, u "com/example/modest_log/modestlog/log/TimeIndexEntry"), (0, .methodref 7 10), (0, .nameAndType 5 11), (0, u "(JI)V"), (0, .methodref 7 13), (0, .nameAndType 14 15), (0, u "isReachedBy"), (0, u "(J)Z"), (0, .methodref 17 18), (0, .class_ 19), (0, .nameAndType 20 21), (0, u "java/lang/Math"), (0, u "min"), (0, u "(JJ)J"), (0, .methodref 17 23), (0, .nameAndType 24 21), (0, u "max"), (0, .class_ 26), (0, u "com/example/modest_log/modestlog/log/TimeIndexEntryIsReachedByPinLaw"), (2, u "law"), (0, u "(JIJJ)Z")] 3

def k1m0 : Method := { name := "<init>", desc := "()V", sig := { parameters := [], returnType := none }, accessFlags := 1, code := none }
def k1c1 : Code := { maxStack := 5, maxLocals := 18, code := code, exceptionTable := #[], attributes := #[] }
def k1m1 : Method := { name := "law", desc := "(JIJJ)Z", sig := { parameters := [.long, .int, .long, .long], returnType := some .boolean }, accessFlags := 9, code := some k1c1 }
/-- com/example/modest_log/modestlog/log/TimeIndexEntryIsReachedByPinLaw -/
def k1 : Class := { plain "com/example/modest_log/modestlog/log/TimeIndexEntryIsReachedByPinLaw" (some 0) with
  accessFlags := 49
  interfaces := #[]
  cf := some (fileOf pool1 25 #[] #[{ accessFlags := 1, nameIndex := 5, descriptorIndex := 6, attributes := #[] }, { accessFlags := 9, nameIndex := 29, descriptorIndex := 30, attributes := #[] }] 49 2 #[] #[])
  fields := #[]
  methods := #[k1m0, k1m1]
  instanceTypes := #[]
  staticTypes := #[]
  resolved := Array.replicate 34 none
  statics := none }

def pool2 : Array CpInfo := pool [(1, .methodref 2 3), (0, .class_ 4), (0, .nameAndType 5 6), (0, u "java/lang/Object"), (0, u "<init>"), (0, u "()V"), (0, .class_ 8), (0, u "java/lang/Record")] 13

def k2c0 : Code := { maxStack := 1, maxLocals := 1, code := jdk_30_method_1_code, exceptionTable := #[], attributes := #[] }
def k2m0 : Method := { name := "<init>", desc := "()V", sig := { parameters := [], returnType := none }, accessFlags := 4, code := some k2c0 }
/-- java/lang/Record -/
def k2 : Class := { plain "java/lang/Record" (some 0) with
  accessFlags := 1057
  interfaces := #[]
  cf := some (fileOf pool2 7 #[] #[{ accessFlags := 4, nameIndex := 5, descriptorIndex := 6, attributes := #[] }] 1057 2 #[] #[])
  fields := #[]
  methods := #[k2m0]
  instanceTypes := #[]
  staticTypes := #[]
  resolved := Array.replicate 22 none
  statics := none }

def pool3 : Array CpInfo := pool [(1, .methodref 2 3), (0, .class_ 4), (0, .nameAndType 5 6), (0, u "java/lang/Record"), (0, u "<init>"), (0, u "()V"), (0, .fieldref 8 9), (0, .class_ 10), (0, .nameAndType 11 12), (0, u "com/example/modest_log/modestlog/log/TimeIndexEntry"), (0, u "timestamp"), (0, u "J"), (0, .fieldref 8 14), (0, .nameAndType 15 16), (0, u "relativeOffset"), (0, u "I"), (38, u "isReachedBy"), (0, u "(J)Z"), (19, u "(JI)V")] 57

def k3c0 : Code := { maxStack := 3, maxLocals := 4, code := prog_36_method_1_code, exceptionTable := #[], attributes := #[] }
def k3m0 : Method := { name := "<init>", desc := "(JI)V", sig := { parameters := [.long, .int], returnType := none }, accessFlags := 1, code := some k3c0 }
def k3c1 : Code := { maxStack := 4, maxLocals := 3, code := prog_36_method_7_code, exceptionTable := #[], attributes := #[] }
def k3m1 : Method := { name := "isReachedBy", desc := "(J)Z", sig := { parameters := [.long], returnType := some .boolean }, accessFlags := 1, code := some k3c1 }
/-- com/example/modest_log/modestlog/log/TimeIndexEntry -/
def k3 : Class := { plain "com/example/modest_log/modestlog/log/TimeIndexEntry" (some 2) with
  accessFlags := 49
  interfaces := #[]
  cf := some (fileOf pool3 8 #[] #[{ accessFlags := 1, nameIndex := 5, descriptorIndex := 76, attributes := #[] }, { accessFlags := 1, nameIndex := 55, descriptorIndex := 56, attributes := #[] }] 49 2 #[] #[{ accessFlags := 18, nameIndex := 11, descriptorIndex := 12, attributes := #[] }, { accessFlags := 18, nameIndex := 15, descriptorIndex := 16, attributes := #[] }])
  fields := #[{ name := "timestamp", type := .long, accessFlags := 18, slot := 0, constantValue := 0 }, { name := "relativeOffset", type := .int, accessFlags := 18, slot := 1, constantValue := 0 }]
  methods := #[k3m0, k3m1]
  instanceTypes := #[.long, .int]
  staticTypes := #[]
  resolved := Array.replicate 134 none
  statics := none }

def pool4 : Array CpInfo := pool [(1, .class_ 2), (0, u "java/lang/Math"), (1, .class_ 6), (1, u "java/lang/Object"), (0, u "<init>"), (0, u "()V"), (89, .class_ 100), (1, u "java/lang/Math$RandomNumberGeneratorHolder"), (20, u "(JJ)J"), (50, u "negativeZeroFloatBits"), (0, u "J"), (2, u "negativeZeroDoubleBits"), (21, u "max"), (2, u "min"), (43, u "$assertionsDisabled"), (0, u "Z"), (91, u "twoToTheDoubleScaleDown"), (0, u "D"), (4, u "twoToTheDoubleScaleUp"), (9, u "E"), (3, u "PI"), (2, u "TAU"), (2, u "DEGREES_TO_RADIANS"), (0, u "RADIANS_TO_DEGREES")] 94

def k4m0 : Method := { name := "<init>", desc := "()V", sig := { parameters := [], returnType := none }, accessFlags := 2, code := none }
def k4c1 : Code := { maxStack := 4, maxLocals := 4, code := jdk_29_method_66_code, exceptionTable := #[], attributes := #[] }
def k4m1 : Method := { name := "max", desc := "(JJ)J", sig := { parameters := [.long, .long], returnType := some .long }, accessFlags := 9, code := some k4c1 }
def k4c2 : Code := { maxStack := 4, maxLocals := 4, code := jdk_29_method_70_code, exceptionTable := #[], attributes := #[] }
def k4m2 : Method := { name := "min", desc := "(JJ)J", sig := { parameters := [.long, .long], returnType := some .long }, accessFlags := 9, code := some k4c2 }
/-- java/lang/Math -/
def k4 : Class := { plain "java/lang/Math" (some 0) with
  accessFlags := 49
  interfaces := #[]
  cf := some (fileOf pool4 1 #[.nestMembers #[98]] #[{ accessFlags := 2, nameIndex := 7, descriptorIndex := 8, attributes := #[] }, { accessFlags := 9, nameIndex := 198, descriptorIndex := 121, attributes := #[] }, { accessFlags := 9, nameIndex := 201, descriptorIndex := 121, attributes := #[] }] 49 4 #[] #[{ accessFlags := 25, nameIndex := 354, descriptorIndex := 339, attributes := #[] }, { accessFlags := 25, nameIndex := 358, descriptorIndex := 339, attributes := #[] }, { accessFlags := 25, nameIndex := 361, descriptorIndex := 339, attributes := #[] }, { accessFlags := 26, nameIndex := 364, descriptorIndex := 339, attributes := #[] }, { accessFlags := 26, nameIndex := 365, descriptorIndex := 339, attributes := #[] }, { accessFlags := 26, nameIndex := 172, descriptorIndex := 173, attributes := #[] }, { accessFlags := 26, nameIndex := 176, descriptorIndex := 173, attributes := #[] }, { accessFlags := 8, nameIndex := 344, descriptorIndex := 339, attributes := #[] }, { accessFlags := 8, nameIndex := 338, descriptorIndex := 339, attributes := #[] }, { accessFlags := 4120, nameIndex := 245, descriptorIndex := 246, attributes := #[] }])
  fields := #[{ name := "E", type := .double, accessFlags := 25, slot := 0, constantValue := 0 }, { name := "PI", type := .double, accessFlags := 25, slot := 1, constantValue := 0 }, { name := "TAU", type := .double, accessFlags := 25, slot := 2, constantValue := 0 }, { name := "DEGREES_TO_RADIANS", type := .double, accessFlags := 26, slot := 3, constantValue := 0 }, { name := "RADIANS_TO_DEGREES", type := .double, accessFlags := 26, slot := 4, constantValue := 0 }, { name := "negativeZeroFloatBits", type := .long, accessFlags := 26, slot := 5, constantValue := 0 }, { name := "negativeZeroDoubleBits", type := .long, accessFlags := 26, slot := 6, constantValue := 0 }, { name := "twoToTheDoubleScaleUp", type := .double, accessFlags := 8, slot := 7, constantValue := 0 }, { name := "twoToTheDoubleScaleDown", type := .double, accessFlags := 8, slot := 8, constantValue := 0 }, { name := "$assertionsDisabled", type := .boolean, accessFlags := 4120, slot := 9, constantValue := 0 }]
  methods := #[k4m0, k4m1, k4m2]
  instanceTypes := #[]
  staticTypes := #[.double, .double, .double, .double, .double, .long, .long, .double, .double, .boolean]
  resolved := Array.replicate 460 none
  statics := none }

def pool5 : Array CpInfo := pool [(1, u "java/lang/Cloneable"), (0, .class_ 1), (0, u "java/lang/Object"), (0, .class_ 3)] 3

/-- java/lang/Cloneable -/
def k5 : Class := { plain "java/lang/Cloneable" (some 0) with
  accessFlags := 1537
  interfaces := #[]
  cf := some (fileOf pool5 2 #[] #[] 1537 4 #[] #[])
  fields := #[]
  methods := #[]
  instanceTypes := #[]
  staticTypes := #[]
  resolved := Array.replicate 8 none
  statics := none }

def pool6 : Array CpInfo := pool [(1, u "java/io/Serializable"), (0, .class_ 1), (0, u "java/lang/Object"), (0, .class_ 3)] 3

/-- java/io/Serializable -/
def k6 : Class := { plain "java/io/Serializable" (some 0) with
  accessFlags := 1537
  interfaces := #[]
  cf := some (fileOf pool6 2 #[] #[] 1537 4 #[] #[])
  fields := #[]
  methods := #[]
  instanceTypes := #[]
  staticTypes := #[]
  resolved := Array.replicate 8 none
  statics := none }

/-- the primitive byte -/
def k7 : Class := { plain "byte" none with kind := .primitive 'B', accessFlags := 0x411 }
/-- [B -/
def k8 : Class := { plain "[B" (some 0) with kind := .array 7 .byte, interfaces := #[5, 6], accessFlags := 1041 }

/-- the primitive int -/
def k9 : Class := { plain "int" none with kind := .primitive 'I', accessFlags := 0x411 }
/-- [I -/
def k10 : Class := { plain "[I" (some 0) with kind := .array 9 .int, interfaces := #[5, 6], accessFlags := 1041 }

def heap : Heap := #[]
def classes : Array Class := #[k0, k1, k2, k3, k4, k5, k6, k7, k8, k9, k10]
def interned : List (Array UInt16 × Addr) := []
def slotsUsed : Nat := 0
def theMethod : MethodId := ⟨1, 1⟩
def args0 : Array Value := #[.long 5, .int 3, .long 7, .long 9]
def aboutOver (below : List Frame) : State where
  vm := { classes := classes, interned := interned.toArray }
  heap := heap
  slotsUsed := slotsUsed
  threads := #[{ frames := .invoking theMethod args0 :: below }]
def below0 : List Frame := [.native { method := ⟨0, 0⟩, args := #[] }]
def about1 : State := aboutOver below0
def p0 : Program := .bare "" "" ""
def e0 : Env := launch0.env 0 0 0
theorem w_frames : about1.frames = Frame.invoking theMethod args0 :: below0 := rfl
set_option maxRecDepth 65536 in
theorem w_args : argsFit about1.vm theMethod args0 = true := by decide +kernel
set_option maxRecDepth 65536 in
theorem w_heap : heapFits about1 = true := by decide +kernel
set_option maxRecDepth 65536 in
theorem w_runnable : about1.curStatus? = some .runnable := by decide +kernel
set_option maxRecDepth 65536 in
theorem w_alone : about1.alone = true := by decide +kernel
set_option maxRecDepth 65536 in
theorem w_named : about1.methodNamed? x = some theMethod := by decide +kernel
set_option maxRecDepth 65536 in
theorem w_hears : about1.hears theMethod below0 = true := by decide +kernel
set_option maxRecDepth 65536 in
theorem w_ripe : about1.ripe theMethod args0 below0 = true := by decide +kernel
theorem w_running : about1.status = .running := rfl
set_option maxRecDepth 65536 in
theorem w_room : about1.hasRoom e0.platform room_1 = true :=
  launch0.hasRoom_least _ room_1 (by decide +kernel) (by decide +kernel) (by decide +kernel) (by decide +kernel) (by decide +kernel) (by decide +kernel)
theorem allAtoms_all (ts : List Jvm.Cond) (a : Array Jvm.Value) (st : Jvm.State) : (allAtoms ts).before a st = ts.all (fun c => c.before a st) := by
  induction ts with
  | nil => rfl
  | cons c t ih =>
    show (Jvm.Cond.and c (allAtoms t)).before a st = _
    rw [Jvm.Cond.before_and, ih, List.all_cons]
def words1 : List Jvm.Cond := Jvm.Cond.code x code maxLocals ret :: tables_1
/-- a 'code' word, met by the world's own term for the bytes: nothing is compared byte by byte -/
theorem code_word {y : MethodName} {bytes : ByteArray} {mx : Nat} {rt : Option FieldType} {a : Array Value} {s : State} {m : MethodId} {meth : Method} {c : Code} (h1 : s.methodNamed? y = some m) (h2 : s.vm.method? m = some meth) (h3 : meth.code = some c) (h4 : c.code = bytes)
    (h5 : (c.maxLocals == mx && c.exceptionTable.isEmpty && decide (c.maxStack ≤ mostOperands) && decide (meth.sig.returnType = rt) && !meth.locks && decide (parseMethodDescriptor y.desc = some meth.sig)) = true) : (Jvm.Cond.code y bytes mx rt).before a s = true := by
  simp only [Bool.and_eq_true, beq_iff_eq, Bool.not_eq_true', decide_eq_true_eq] at h5
  obtain ⟨⟨⟨⟨⟨g1, g2⟩, g3⟩, g4⟩, g5⟩, g6⟩ := h5
  simp [Cond.before, Cond.holds, Cond.value, h1, h2, h3, h4, g1, g2, g3, g4, g5, g6]
def isCode : Jvm.Cond → Bool
  | .code _ _ _ _ => true
  | _ => false
theorem all_split {L : List Jvm.Cond} {P : Jvm.Cond → Bool} (h1 : L.all (fun c => isCode c || P c) = true) (h2 : ∀ c ∈ L.filter isCode, P c = true) : L.all P = true := by
  refine List.all_eq_true.mpr fun c hc => ?_
  have h := List.all_eq_true.mp h1 c hc
  rcases Bool.eq_false_or_eq_true (isCode c) with hi | hi
  · exact h2 c (List.mem_filter.mpr ⟨hc, hi⟩)
  · simpa [hi] using h
set_option maxRecDepth 65536 in
theorem w_c0 : (Jvm.Cond.code x code maxLocals ret).before args0 about1 = true := code_word (m := ⟨1, 1⟩) (meth := k1m1) (c := k1c1) (by decide +kernel) rfl rfl rfl (by decide +kernel)
set_option maxRecDepth 65536 in
theorem w_c1 : (Jvm.Cond.code ({ cls := "com/example/modest_log/modestlog/log/TimeIndexEntry", name := "<init>", desc := "(JI)V" } : Jvm.MethodName) prog_36_method_1_code (4 : Nat) (Option.none : Option Jvm.ClassFile.FieldType)).before args0 about1 = true := code_word (m := ⟨3, 0⟩) (meth := k3m0) (c := k3c0) (by decide +kernel) rfl rfl rfl (by decide +kernel)
set_option maxRecDepth 65536 in
theorem w_c2 : (Jvm.Cond.code ({ cls := "java/lang/Record", name := "<init>", desc := "()V" } : Jvm.MethodName) jdk_30_method_1_code (1 : Nat) (Option.none : Option Jvm.ClassFile.FieldType)).before args0 about1 = true := code_word (m := ⟨2, 0⟩) (meth := k2m0) (c := k2c0) (by decide +kernel) rfl rfl rfl (by decide +kernel)
set_option maxRecDepth 65536 in
theorem w_c3 : (Jvm.Cond.code ({ cls := "java/lang/Object", name := "<init>", desc := "()V" } : Jvm.MethodName) object_method_1_code (1 : Nat) (Option.none : Option Jvm.ClassFile.FieldType)).before args0 about1 = true := code_word (m := ⟨0, 0⟩) (meth := k0m0) (c := k0c0) (by decide +kernel) rfl rfl rfl (by decide +kernel)
set_option maxRecDepth 65536 in
theorem w_c4 : (Jvm.Cond.code ({ cls := "com/example/modest_log/modestlog/log/TimeIndexEntry", name := "isReachedBy", desc := "(J)Z" } : Jvm.MethodName) prog_36_method_7_code (3 : Nat) (Option.some Jvm.ClassFile.FieldType.boolean)).before args0 about1 = true := code_word (m := ⟨3, 1⟩) (meth := k3m1) (c := k3c1) (by decide +kernel) rfl rfl rfl (by decide +kernel)
set_option maxRecDepth 65536 in
theorem w_c5 : (Jvm.Cond.code ({ cls := "java/lang/Math", name := "min", desc := "(JJ)J" } : Jvm.MethodName) jdk_29_method_70_code (4 : Nat) (Option.some Jvm.ClassFile.FieldType.long)).before args0 about1 = true := code_word (m := ⟨4, 2⟩) (meth := k4m2) (c := k4c2) (by decide +kernel) rfl rfl rfl (by decide +kernel)
set_option maxRecDepth 65536 in
theorem w_c6 : (Jvm.Cond.code ({ cls := "java/lang/Math", name := "max", desc := "(JJ)J" } : Jvm.MethodName) jdk_29_method_66_code (4 : Nat) (Option.some Jvm.ClassFile.FieldType.long)).before args0 about1 = true := code_word (m := ⟨4, 1⟩) (meth := k4m1) (c := k4c1) (by decide +kernel) rfl rfl rfl (by decide +kernel)
def codes1 : List Jvm.Cond := [Jvm.Cond.code x code maxLocals ret, Jvm.Cond.code ({ cls := "com/example/modest_log/modestlog/log/TimeIndexEntry", name := "<init>", desc := "(JI)V" } : Jvm.MethodName) prog_36_method_1_code (4 : Nat) (Option.none : Option Jvm.ClassFile.FieldType), Jvm.Cond.code ({ cls := "java/lang/Record", name := "<init>", desc := "()V" } : Jvm.MethodName) jdk_30_method_1_code (1 : Nat) (Option.none : Option Jvm.ClassFile.FieldType), Jvm.Cond.code ({ cls := "java/lang/Object", name := "<init>", desc := "()V" } : Jvm.MethodName) object_method_1_code (1 : Nat) (Option.none : Option Jvm.ClassFile.FieldType), Jvm.Cond.code ({ cls := "com/example/modest_log/modestlog/log/TimeIndexEntry", name := "isReachedBy", desc := "(J)Z" } : Jvm.MethodName) prog_36_method_7_code (3 : Nat) (Option.some Jvm.ClassFile.FieldType.boolean), Jvm.Cond.code ({ cls := "java/lang/Math", name := "min", desc := "(JJ)J" } : Jvm.MethodName) jdk_29_method_70_code (4 : Nat) (Option.some Jvm.ClassFile.FieldType.long), Jvm.Cond.code ({ cls := "java/lang/Math", name := "max", desc := "(JJ)J" } : Jvm.MethodName) jdk_29_method_66_code (4 : Nat) (Option.some Jvm.ClassFile.FieldType.long)]
set_option maxRecDepth 65536 in
theorem codes_eq : words1.filter isCode = codes1 := rfl
theorem w_codes : ∀ c ∈ words1.filter isCode, c.before args0 about1 = true := by
  rw [codes_eq]
  intro c hc
  simp only [codes1, List.mem_cons, List.not_mem_nil, or_false] at hc
  rcases hc with rfl | rfl | rfl | rfl | rfl | rfl | rfl
  · exact w_c0
  · exact w_c1
  · exact w_c2
  · exact w_c3
  · exact w_c4
  · exact w_c5
  · exact w_c6
set_option maxRecDepth 65536 in
theorem w_t1 : (words1.take 24).all (fun c => isCode c || c.before args0 about1) = true := by decide +kernel
set_option maxRecDepth 65536 in
theorem w_t2 : (words1.drop 24).all (fun c => isCode c || c.before args0 about1) = true := by decide +kernel
theorem w_tables : (allAtoms (Jvm.Cond.code x code maxLocals ret :: tables_1)).before args0 about1 = true := by
  rw [allAtoms_all]
  show words1.all (fun c => c.before args0 about1) = true
  refine all_split ?_ w_codes
  rw [← List.take_append_drop 24 words1, List.all_append, w_t1, w_t2]
  rfl
set_option maxRecDepth 65536 in
theorem w_case : (Jvm.Cond.and given_1 narrow_1).before args0 about1 = true := by decide +kernel
theorem w_applies : (headSpec (Jvm.Cond.code x code maxLocals ret :: tables_1) room_1).applies x e0.platform about1 = true :=
  (Spec.applies_iff w_frames).mpr ⟨w_running, w_runnable, w_alone, w_named, w_hears, w_ripe, w_room, w_tables⟩
theorem atStart : AtStart classFile x code maxLocals ret World_1 tables_1 room_1 Calls_1 rest_1 Pre_1 launch0 p0 e0 about1 theMethod args0 below0 :=
  ⟨lists_1, trivial, launch0.admits_env _ _ _, launch0.least_env, fairChoices_fair.cas, fairChoices_fair.clock, w_frames, w_args, w_heap, w_applies, trivial, trivial, w_case⟩
end start1
theorem witness_1 : WitnessClaimed_1 := ⟨start1.p0, start1.e0, start1.about1, start1.theMethod, start1.args0, start1.below0, start1.atStart⟩
end Jvm.Pilot.@@N@@
