import JvmDerived
import JvmDerived.Pilot.@@N@@Statement
import JvmDerived.Pilot.@@N@@Code
set_option linter.unusedVariables false
set_option linter.unusedSimpArgs false
namespace Jvm.Pilot.@@N@@
open Jvm Jvm.ClassFile Sem Op Lib Jvm.Free Jvm.Stand Jvm.LawKit Jvm.RoadKit Bundle Jvm.Pilot.@@N@@.Jvm.D
theorem own_lt32 {a b : Int32} : a < b ↔ a.toInt < b.toInt := Int32.lt_iff_toInt_lt
theorem own_eq32 {a b : Int32} : a = b ↔ a.toInt = b.toInt := Int32.toInt_inj.symm
theorem own_lt64 {a b : Int64} : a < b ↔ a.toInt < b.toInt := Int64.lt_iff_toInt_lt
theorem own_eq64 {a b : Int64} : a = b ↔ a.toInt = b.toInt := Int64.toInt_inj.symm
theorem own_b01 {c : Prop} [Decidable c] {v : Int32} (h : (if c then (0 : Int32) else (1 : Int32)) = v) : v = (0 : Int32) ∨ v = (1 : Int32) := by
  by_cases q : c
  · rw [if_pos q] at h; exact Or.inl h.symm
  · rw [if_neg q] at h; exact Or.inr h.symm
theorem own_mm {a b l h : Int64} {c : Prop} [Decidable c] (hl : (if b < a then b else a) = l) (hh : (if c then (if a < b then b else a) else l) = h) : ¬ h < l := by
  rw [own_lt64]
  by_cases x : b < a
  · rw [if_pos x] at hl; by_cases y : c
    · rw [if_pos y] at hh; by_cases z : a < b
      · rw [if_pos z] at hh; subst hl hh; omega
      · rw [if_neg z] at hh; subst hl hh; rw [own_lt64] at x; omega
    · rw [if_neg y] at hh; subst hh; omega
  · rw [if_neg x] at hl; by_cases y : c
    · rw [if_pos y] at hh; by_cases z : a < b
      · rw [if_pos z] at hh; subst hl hh; rw [own_lt64] at x; omega
      · rw [if_neg z] at hh; subst hl hh; omega
    · rw [if_neg y] at hh; subst hh; omega
theorem own_d1 {h : Int64} (q : ¬ h = (-9223372036854775808 : Int64)) : (h - (1 : Int64)) < h := by
  rw [own_lt64]
  have h1 := Jvm.RoadKit.c_lsub h (1 : Int64)
  have h2 := Jvm.RoadKit.rng64 h
  have h3 := Jvm.RoadKit.rng64 (h - (1 : Int64))
  have e : (1 : Int64).toInt = 1 := rfl
  rw [own_eq64] at q
  have e2 : (-9223372036854775808 : Int64).toInt = -9223372036854775808 := rfl
  omega
theorem d1_0 : decode jdk_29_method_70_code 0 = .ok (.lload_n 0, 1) := by decide +kernel
theorem d1_1 : decode jdk_29_method_70_code 1 = .ok (.lload_n 2, 1) := by decide +kernel
theorem d1_2 : decode jdk_29_method_70_code 2 = .ok (.lcmp, 1) := by decide +kernel
theorem d1_3 : decode jdk_29_method_70_code 3 = .ok (.ifCond .gt 7, 3) := by decide +kernel
theorem d1_10 : decode jdk_29_method_70_code 10 = .ok (.lload_n 2, 1) := by decide +kernel
theorem d1_6 : decode jdk_29_method_70_code 6 = .ok (.lload_n 0, 1) := by decide +kernel
theorem d1_7 : decode jdk_29_method_70_code 7 = .ok (.goto 4, 3) := by decide +kernel
def Q_rm1 (Z : State) (q0 : Int64) (q1 : Int64) (h0 : Heap) (n0 : Nat) (v : Option Value) (h : Heap) (L : List Loc) : Prop := v = some (.long (if q1 < q0 then q1 else q0)) ∧ Fr n0 L ∧ h = h0
theorem ef_1 (m : MethodId) (x0 : Int64) (x1 : Int64) : entryFrame m #[(.long x0), (.long x1)] 4 = mkF m 0 #[.val (.long x0), .second, .val (.long x1), .second] [] := by first | (simp [entryFrame, mkF, argsToLocals, Value.category]; done) | rfl
theorem d1_11 : decode jdk_29_method_70_code 11 = .ok (.lreturn, 1) := by decide +kernel
set_option maxRecDepth 65536 in
set_option maxHeartbeats 40000000 in
theorem rm1 (l : Launch) (Z : State) (a0 : Array Value) (hw : ∀ d ∈ tables_1, d.before a0 Z = true) (ws : List Jvm.Cond) (q0 : Int64) (q1 : Int64) (h0 : Heap) (n0 : Nat) (Z0 : n0 ≤ h0.size) :
    MetFree l (⟨"java/lang/Math", "min", "(JJ)J"⟩ : MethodName) (head1 (Jvm.Cond.code (⟨"java/lang/Math", "min", "(JJ)J"⟩ : MethodName) jdk_29_method_70_code 4 (some .long) :: ws) ({ frames := 0, cells := 0, slots := 0, locals := 0 } : Room)) (fun a U => a = #[(.long q0), (.long q1)] ∧ Z.Warmed39 U.vm ∧ U.heap = h0) (fun _ _ _ _ _ => True) (fun _ U o U' => ∃ v L, o = .returned v ∧ Q_rm1 Z q0 q1 h0 n0 v U'.heap L ∧ FrameEnd U o U' L ({ frames := 0, cells := 0, slots := 0, locals := 0 } : Room).cells ({ frames := 0, cells := 0, slots := 0, locals := 0 } : Room).slots) := by
  refine MetFree.of_bodySF (Jvm.Free.JP.mathPlain rfl (by decide +kernel)) hisR ?_
  intro p e s m args below meth c s₁ Bd hml0 hP hK
  obtain ⟨rfl, hZ, hh⟩ := hP
  have hx := Bd.exec
  have hby := Bd.bytes
  have hml : c.maxLocals = 4 := hml0
  have hown : s.vm.findClass "java/lang/Math" = some m.cls := findClass_of_methodNamed Bd.named
  have hnm := (name_of_methodNamed Bd.named Bd.method).1
  have X0 : Stand p l e ({ frames := 0, cells := 0, slots := 0, locals := 0 } : Room) s m #[(.long q0), (.long q1)] below meth c s₁ [] 0 0 := Stand.of_body Bd
  have e0 : s₁.heap = h0 := by rw [← hh, Bd.state]; rfl
  have N0 := Fr.nil n0
  have Kp0 : Keep h0 h0 [] := Keep.refl _ _
  have K0 : Steps p.tables e below (s₁.setTop (entryFrame m #[(.long q0), (.long q1)] 4)) (s₁.setTop (mkF m 0 #[.val (.long q0), .second, .val (.long q1), .second] [])) := castTop (ef_1 m q0 q1) (Steps.refl _)
  have K1 : Steps p.tables e below _ (s₁.setTop (mkF m 3 #[.val (.long q0), .second, .val (.long q1), .second] [(.int (lcmpW q0 q1))])) := K0.trans (by
    show Steps p.tables e below (s₁.setTop (mkF m 0 #[.val (.long q0), .second, .val (.long q1), .second] [])) _
    refine XS.lloadN X0.here hx rfl (hb hby d1_0) rfl ?_
    show Steps p.tables e below (s₁.setTop (mkF m 1 #[.val (.long q0), .second, .val (.long q1), .second] [(.long q0)])) _
    refine XS.lloadN X0.here hx rfl (hb hby d1_1) rfl ?_
    show Steps p.tables e below (s₁.setTop (mkF m 2 #[.val (.long q0), .second, .val (.long q1), .second] [(.long q1), (.long q0)])) _
    refine XS.lcmp X0.here hx rfl (hb hby d1_2) rfl ?_
    show Steps p.tables e below (s₁.setTop (mkF m 3 #[.val (.long q0), .second, .val (.long q1), .second] [(.int (lcmpW q0 q1))])) _
    exact Steps.refl _)
  obtain ⟨v2_0, hv2_0, S2⟩ : ∃ (v2_0 : Int64), (if q1 < q0 then q1 else q0) = v2_0 ∧ Steps p.tables e below (s₁.setTop (mkF m 3 #[.val (.long q0), .second, .val (.long q1), .second] [(.int (lcmpW q0 q1))])) (s₁.setTop (mkF m 11 #[.val (.long q0), .second, .val (.long q1), .second] [(.long v2_0)])) := by
    have R2 : Steps p.tables e below (s₁.setTop (mkF m 3 #[.val (.long q0), .second, .val (.long q1), .second] [(.int (lcmpW q0 q1))])) (s₁.setTop (mkF m 3 #[.val (.long q0), .second, .val (.long q1), .second] [(.int (lcmpW q0 q1))])) := Steps.refl _
    by_cases hc3 : q1 < q0
    · have K3 : Steps p.tables e below _ (s₁.setTop (mkF m 11 #[.val (.long q0), .second, .val (.long q1), .second] [(.long q1)])) := R2.trans (by
        show Steps p.tables e below (s₁.setTop (mkF m 3 #[.val (.long q0), .second, .val (.long q1), .second] [(.int (lcmpW q0 q1))])) _
        refine XS.ifYes X0.here hx rfl (pc0 := 3) (pc' := 10) rfl (hb hby d1_3) rfl ((if0 _ _).trans (tlt ((lw_gt q0 q1).mpr hc3)).2.2.1) (by decide) (by decide) ?_
        show Steps p.tables e below (s₁.setTop (mkF m 10 #[.val (.long q0), .second, .val (.long q1), .second] [])) _
        refine XS.lloadN X0.here hx rfl (hb hby d1_10) rfl ?_
        show Steps p.tables e below (s₁.setTop (mkF m 11 #[.val (.long q0), .second, .val (.long q1), .second] [(.long q1)])) _
        exact Steps.refl _)
      exact ⟨q1, (by rw [if_pos hc3]), K3⟩
    · have K4 : Steps p.tables e below _ (s₁.setTop (mkF m 11 #[.val (.long q0), .second, .val (.long q1), .second] [(.long q0)])) := R2.trans (by
        show Steps p.tables e below (s₁.setTop (mkF m 3 #[.val (.long q0), .second, .val (.long q1), .second] [(.int (lcmpW q0 q1))])) _
        refine XS.ifNo X0.here hx rfl (hb hby d1_3) rfl ((if0 _ _).trans (flt (fun z => hc3 ((lw_gt q0 q1).mp z))).2.2.1) ?_
        show Steps p.tables e below (s₁.setTop (mkF m 6 #[.val (.long q0), .second, .val (.long q1), .second] [])) _
        refine XS.lloadN X0.here hx rfl (hb hby d1_6) rfl ?_
        show Steps p.tables e below (s₁.setTop (mkF m 7 #[.val (.long q0), .second, .val (.long q1), .second] [(.long q0)])) _
        refine XS.goto X0.here hx rfl (pc0 := 7) (pc' := 11) rfl (hb hby d1_7) (by decide) (by decide) ?_
        show Steps p.tables e below (s₁.setTop (mkF m 11 #[.val (.long q0), .second, .val (.long q1), .second] [(.long q0)])) _
        exact Steps.refl _)
      exact ⟨q0, (by rw [if_neg hc3]), K4⟩
  have K5 := K1.trans S2
  subst hv2_0
  obtain ⟨fs, hr, hrun, hended, hW, hsame⟩ := X0.leave (v := some (.long (if q1 < q0 then q1 else q0))) (fun h => by rw [Bd.returns] at h; cases h)
  refine ⟨_, _, K5.trans (retOut X0 hx Bd.returns rfl (Or.inr (Or.inl ⟨rfl, rfl, _, rfl⟩)) (hb hby d1_11) hr), hrun, hended, _, _, rfl, ?_, ⟨_, rfl⟩, hW, hsame.mono (by decide) (by first | decide | omega)⟩
  show Q_rm1 Z q0 q1 h0 n0 _ s₁.heap _
  rw [e0]
  exact ⟨rfl, N0, rfl⟩
theorem d2_0 : decode jdk_29_method_66_code 0 = .ok (.lload_n 0, 1) := by decide +kernel
theorem d2_1 : decode jdk_29_method_66_code 1 = .ok (.lload_n 2, 1) := by decide +kernel
theorem d2_2 : decode jdk_29_method_66_code 2 = .ok (.lcmp, 1) := by decide +kernel
theorem d2_3 : decode jdk_29_method_66_code 3 = .ok (.ifCond .lt 7, 3) := by decide +kernel
theorem d2_10 : decode jdk_29_method_66_code 10 = .ok (.lload_n 2, 1) := by decide +kernel
theorem d2_6 : decode jdk_29_method_66_code 6 = .ok (.lload_n 0, 1) := by decide +kernel
theorem d2_7 : decode jdk_29_method_66_code 7 = .ok (.goto 4, 3) := by decide +kernel
def Q_rm2 (Z : State) (q0 : Int64) (q1 : Int64) (h0 : Heap) (n0 : Nat) (v : Option Value) (h : Heap) (L : List Loc) : Prop := v = some (.long (if q0 < q1 then q1 else q0)) ∧ Fr n0 L ∧ h = h0
theorem ef_2 (m : MethodId) (x0 : Int64) (x1 : Int64) : entryFrame m #[(.long x0), (.long x1)] 4 = mkF m 0 #[.val (.long x0), .second, .val (.long x1), .second] [] := by first | (simp [entryFrame, mkF, argsToLocals, Value.category]; done) | rfl
theorem d2_11 : decode jdk_29_method_66_code 11 = .ok (.lreturn, 1) := by decide +kernel
set_option maxRecDepth 65536 in
set_option maxHeartbeats 40000000 in
theorem rm2 (l : Launch) (Z : State) (a0 : Array Value) (hw : ∀ d ∈ tables_1, d.before a0 Z = true) (ws : List Jvm.Cond) (q0 : Int64) (q1 : Int64) (h0 : Heap) (n0 : Nat) (Z0 : n0 ≤ h0.size) :
    MetFree l (⟨"java/lang/Math", "max", "(JJ)J"⟩ : MethodName) (head1 (Jvm.Cond.code (⟨"java/lang/Math", "max", "(JJ)J"⟩ : MethodName) jdk_29_method_66_code 4 (some .long) :: ws) ({ frames := 0, cells := 0, slots := 0, locals := 0 } : Room)) (fun a U => a = #[(.long q0), (.long q1)] ∧ Z.Warmed39 U.vm ∧ U.heap = h0) (fun _ _ _ _ _ => True) (fun _ U o U' => ∃ v L, o = .returned v ∧ Q_rm2 Z q0 q1 h0 n0 v U'.heap L ∧ FrameEnd U o U' L ({ frames := 0, cells := 0, slots := 0, locals := 0 } : Room).cells ({ frames := 0, cells := 0, slots := 0, locals := 0 } : Room).slots) := by
  refine MetFree.of_bodySF (Jvm.Free.JP.mathPlain rfl (by decide +kernel)) hisR ?_
  intro p e s m args below meth c s₁ Bd hml0 hP hK
  obtain ⟨rfl, hZ, hh⟩ := hP
  have hx := Bd.exec
  have hby := Bd.bytes
  have hml : c.maxLocals = 4 := hml0
  have hown : s.vm.findClass "java/lang/Math" = some m.cls := findClass_of_methodNamed Bd.named
  have hnm := (name_of_methodNamed Bd.named Bd.method).1
  have X0 : Stand p l e ({ frames := 0, cells := 0, slots := 0, locals := 0 } : Room) s m #[(.long q0), (.long q1)] below meth c s₁ [] 0 0 := Stand.of_body Bd
  have e0 : s₁.heap = h0 := by rw [← hh, Bd.state]; rfl
  have N0 := Fr.nil n0
  have Kp0 : Keep h0 h0 [] := Keep.refl _ _
  have K0 : Steps p.tables e below (s₁.setTop (entryFrame m #[(.long q0), (.long q1)] 4)) (s₁.setTop (mkF m 0 #[.val (.long q0), .second, .val (.long q1), .second] [])) := castTop (ef_2 m q0 q1) (Steps.refl _)
  have K1 : Steps p.tables e below _ (s₁.setTop (mkF m 3 #[.val (.long q0), .second, .val (.long q1), .second] [(.int (lcmpW q0 q1))])) := K0.trans (by
    show Steps p.tables e below (s₁.setTop (mkF m 0 #[.val (.long q0), .second, .val (.long q1), .second] [])) _
    refine XS.lloadN X0.here hx rfl (hb hby d2_0) rfl ?_
    show Steps p.tables e below (s₁.setTop (mkF m 1 #[.val (.long q0), .second, .val (.long q1), .second] [(.long q0)])) _
    refine XS.lloadN X0.here hx rfl (hb hby d2_1) rfl ?_
    show Steps p.tables e below (s₁.setTop (mkF m 2 #[.val (.long q0), .second, .val (.long q1), .second] [(.long q1), (.long q0)])) _
    refine XS.lcmp X0.here hx rfl (hb hby d2_2) rfl ?_
    show Steps p.tables e below (s₁.setTop (mkF m 3 #[.val (.long q0), .second, .val (.long q1), .second] [(.int (lcmpW q0 q1))])) _
    exact Steps.refl _)
  obtain ⟨v2_0, hv2_0, S2⟩ : ∃ (v2_0 : Int64), (if q0 < q1 then q1 else q0) = v2_0 ∧ Steps p.tables e below (s₁.setTop (mkF m 3 #[.val (.long q0), .second, .val (.long q1), .second] [(.int (lcmpW q0 q1))])) (s₁.setTop (mkF m 11 #[.val (.long q0), .second, .val (.long q1), .second] [(.long v2_0)])) := by
    have R2 : Steps p.tables e below (s₁.setTop (mkF m 3 #[.val (.long q0), .second, .val (.long q1), .second] [(.int (lcmpW q0 q1))])) (s₁.setTop (mkF m 3 #[.val (.long q0), .second, .val (.long q1), .second] [(.int (lcmpW q0 q1))])) := Steps.refl _
    by_cases hc3 : q0 < q1
    · have K3 : Steps p.tables e below _ (s₁.setTop (mkF m 11 #[.val (.long q0), .second, .val (.long q1), .second] [(.long q1)])) := R2.trans (by
        show Steps p.tables e below (s₁.setTop (mkF m 3 #[.val (.long q0), .second, .val (.long q1), .second] [(.int (lcmpW q0 q1))])) _
        refine XS.ifYes X0.here hx rfl (pc0 := 3) (pc' := 10) rfl (hb hby d2_3) rfl ((if0 _ _).trans (tlt ((lw_lt q0 q1).mpr hc3)).1) (by decide) (by decide) ?_
        show Steps p.tables e below (s₁.setTop (mkF m 10 #[.val (.long q0), .second, .val (.long q1), .second] [])) _
        refine XS.lloadN X0.here hx rfl (hb hby d2_10) rfl ?_
        show Steps p.tables e below (s₁.setTop (mkF m 11 #[.val (.long q0), .second, .val (.long q1), .second] [(.long q1)])) _
        exact Steps.refl _)
      exact ⟨q1, (by rw [if_pos hc3]), K3⟩
    · have K4 : Steps p.tables e below _ (s₁.setTop (mkF m 11 #[.val (.long q0), .second, .val (.long q1), .second] [(.long q0)])) := R2.trans (by
        show Steps p.tables e below (s₁.setTop (mkF m 3 #[.val (.long q0), .second, .val (.long q1), .second] [(.int (lcmpW q0 q1))])) _
        refine XS.ifNo X0.here hx rfl (hb hby d2_3) rfl ((if0 _ _).trans (flt (fun z => hc3 ((lw_lt q0 q1).mp z))).1) ?_
        show Steps p.tables e below (s₁.setTop (mkF m 6 #[.val (.long q0), .second, .val (.long q1), .second] [])) _
        refine XS.lloadN X0.here hx rfl (hb hby d2_6) rfl ?_
        show Steps p.tables e below (s₁.setTop (mkF m 7 #[.val (.long q0), .second, .val (.long q1), .second] [(.long q0)])) _
        refine XS.goto X0.here hx rfl (pc0 := 7) (pc' := 11) rfl (hb hby d2_7) (by decide) (by decide) ?_
        show Steps p.tables e below (s₁.setTop (mkF m 11 #[.val (.long q0), .second, .val (.long q1), .second] [(.long q0)])) _
        exact Steps.refl _)
      exact ⟨q0, (by rw [if_neg hc3]), K4⟩
  have K5 := K1.trans S2
  subst hv2_0
  obtain ⟨fs, hr, hrun, hended, hW, hsame⟩ := X0.leave (v := some (.long (if q0 < q1 then q1 else q0))) (fun h => by rw [Bd.returns] at h; cases h)
  refine ⟨_, _, K5.trans (retOut X0 hx Bd.returns rfl (Or.inr (Or.inl ⟨rfl, rfl, _, rfl⟩)) (hb hby d2_11) hr), hrun, hended, _, _, rfl, ?_, ⟨_, rfl⟩, hW, hsame.mono (by decide) (by first | decide | omega)⟩
  show Q_rm2 Z q0 q1 h0 n0 _ s₁.heap _
  rw [e0]
  exact ⟨rfl, N0, rfl⟩
theorem d3_0 : decode prog_12_method_1_code 0 = .ok (.aload_n 0, 1) := by decide +kernel
theorem d3_1 : decode prog_12_method_1_code 1 = .ok (.invokespecial 1, 3) := by decide +kernel
theorem d3_4 : decode prog_12_method_1_code 4 = .ok (.aload_n 0, 1) := by decide +kernel
theorem d3_5 : decode prog_12_method_1_code 5 = .ok (.iload_n 1, 1) := by decide +kernel
theorem d3_6 : decode prog_12_method_1_code 6 = .ok (.putfield 7, 3) := by decide +kernel
theorem d3_9 : decode prog_12_method_1_code 9 = .ok (.aload_n 0, 1) := by decide +kernel
theorem d3_10 : decode prog_12_method_1_code 10 = .ok (.lload_n 2, 1) := by decide +kernel
theorem d3_11 : decode prog_12_method_1_code 11 = .ok (.putfield 13, 3) := by decide +kernel
theorem d3_14 : decode prog_12_method_1_code 14 = .ok (.aload_n 0, 1) := by decide +kernel
theorem d3_15 : decode prog_12_method_1_code 15 = .ok (.iload 4, 2) := by decide +kernel
theorem d3_17 : decode prog_12_method_1_code 17 = .ok (.putfield 17, 3) := by decide +kernel
theorem d3_20 : decode prog_12_method_1_code 20 = .ok (.aload_n 0, 1) := by decide +kernel
theorem d3_21 : decode prog_12_method_1_code 21 = .ok (.lload 5, 2) := by decide +kernel
theorem d3_23 : decode prog_12_method_1_code 23 = .ok (.putfield 20, 3) := by decide +kernel
def Q_rm3 (Z : State) (o0 : Addr) (p1 : Int32) (q2 : Int64) (p3 : Int32) (q4 : Int64) (u5_hasFrom : Value) (u6_from : Value) (u7_hasTo : Value) (u8_to : Value) (h0 : Heap) (n0 : Nat) (v : Option Value) (h : Heap) (L : List Loc) : Prop := v = none ∧ Fr n0 L ∧ Keep h0 h [o0] ∧ Exa Z h o0 "com/example/spanfold/spanfold/Range" ∧ Fld Z h o0 "com/example/spanfold/spanfold/Range" "hasFrom" "Z" (.int (p1 &&& 1)) ∧ Fld Z h o0 "com/example/spanfold/spanfold/Range" "from" "J" (.long q2) ∧ Fld Z h o0 "com/example/spanfold/spanfold/Range" "hasTo" "Z" (.int (p3 &&& 1)) ∧ Fld Z h o0 "com/example/spanfold/spanfold/Range" "to" "J" (.long q4)
theorem pn_3 : plainName "com/example/spanfold/spanfold/Range" = true := by first | (simp [plainName, overriddenIn]; done) | decide +kernel
theorem ef_3 (m : MethodId) (x0 : Addr) (x1 : Int32) (x2 : Int64) (x3 : Int32) (x4 : Int64) : entryFrame m #[(.ref x0), (.int x1), (.long x2), (.int x3), (.long x4)] 7 = mkF m 0 #[.val (.ref x0), .val (.int x1), .val (.long x2), .second, .val (.int x3), .val (.long x4), .second] [] := by first | (simp [entryFrame, mkF, argsToLocals, Value.category]; done) | rfl
theorem d3_26 : decode prog_12_method_1_code 26 = .ok (.return_, 1) := by decide +kernel
set_option maxRecDepth 65536 in
set_option maxHeartbeats 40000000 in
theorem rm3 (l : Launch) (Z : State) (a0 : Array Value) (hw : ∀ d ∈ tables_1, d.before a0 Z = true) (ws : List Jvm.Cond) (o0 : Addr) (p1 : Int32) (q2 : Int64) (p3 : Int32) (q4 : Int64) (u5_hasFrom : Value) (u6_from : Value) (u7_hasTo : Value) (u8_to : Value) (h0 : Heap) (n0 : Nat) (Z0 : n0 ≤ h0.size) (g_o0 : n0 ≤ o0) (E_o0 : Exa Z h0 o0 "com/example/spanfold/spanfold/Range") (F_hasFrom_o0 : Fld Z h0 o0 "com/example/spanfold/spanfold/Range" "hasFrom" "Z" u5_hasFrom) (F_from_o0 : Fld Z h0 o0 "com/example/spanfold/spanfold/Range" "from" "J" u6_from) (F_hasTo_o0 : Fld Z h0 o0 "com/example/spanfold/spanfold/Range" "hasTo" "Z" u7_hasTo) (F_to_o0 : Fld Z h0 o0 "com/example/spanfold/spanfold/Range" "to" "J" u8_to) :
    MetFree l (⟨"com/example/spanfold/spanfold/Range", "<init>", "(ZJZJ)V"⟩ : MethodName) (head1 (Jvm.Cond.code (⟨"com/example/spanfold/spanfold/Range", "<init>", "(ZJZJ)V"⟩ : MethodName) prog_12_method_1_code 7 none :: ws) ({ frames := 1, cells := 0, slots := 0, locals := 12 } : Room)) (fun a U => a = #[(.ref o0), (.int p1), (.long q2), (.int p3), (.long q4)] ∧ Z.Warmed39 U.vm ∧ U.heap = h0) (fun _ _ _ _ _ => True) (fun _ U o U' => ∃ v L, o = .returned v ∧ Q_rm3 Z o0 p1 q2 p3 q4 u5_hasFrom u6_from u7_hasTo u8_to h0 n0 v U'.heap L ∧ FrameEnd U o U' L ({ frames := 1, cells := 0, slots := 0, locals := 12 } : Room).cells ({ frames := 1, cells := 0, slots := 0, locals := 12 } : Room).slots) := by
  refine MetFree.of_bodySF (plainFor_of_name pn_3) hisR ?_
  intro p e s m args below meth c s₁ Bd hml0 hP hK
  obtain ⟨rfl, hZ, hh⟩ := hP
  have hx := Bd.exec
  have hby := Bd.bytes
  have hml : c.maxLocals = 7 := hml0
  have hown : s.vm.findClass "com/example/spanfold/spanfold/Range" = some m.cls := findClass_of_methodNamed Bd.named
  have hnm := (name_of_methodNamed Bd.named Bd.method).1
  have X0 : Stand p l e ({ frames := 1, cells := 0, slots := 0, locals := 12 } : Room) s m #[(.ref o0), (.int p1), (.long q2), (.int p3), (.long q4)] below meth c s₁ [] 0 0 := Stand.of_body Bd
  have e0 : s₁.heap = h0 := by rw [← hh, Bd.state]; rfl
  have N0 := Fr.nil n0
  have Kp0 : Keep h0 h0 [o0] := Keep.refl _ _
  have K0 : Steps p.tables e below (s₁.setTop (entryFrame m #[(.ref o0), (.int p1), (.long q2), (.int p3), (.long q4)] 7)) (s₁.setTop (mkF m 0 #[.val (.ref o0), .val (.int p1), .val (.long q2), .second, .val (.int p3), .val (.long q4), .second] [])) := castTop (ef_3 m o0 p1 q2 p3 q4) (Steps.refl _)
  have K1 : Steps p.tables e below _ (s₁.setTop (mkF m 1 #[.val (.ref o0), .val (.int p1), .val (.long q2), .second, .val (.int p3), .val (.long q4), .second] [(.ref o0)])) := K0.trans (by
    show Steps p.tables e below (s₁.setTop (mkF m 0 #[.val (.ref o0), .val (.int p1), .val (.long q2), .second, .val (.int p3), .val (.long q4), .second] [])) _
    refine XS.aloadN X0.here hx rfl (hb hby d3_0) rfl rfl ?_
    show Steps p.tables e below (s₁.setTop (mkF m 1 #[.val (.ref o0), .val (.int p1), .val (.long q2), .second, .val (.int p3), .val (.long q4), .second] [(.ref o0)])) _
    exact Steps.refl _)
  obtain ⟨T2, X2, e2, st2⟩ := initO X0 hx hZ hown (hw _ (List.mem_of_getElem? (i := 13) rfl)) (hw _ (List.mem_of_getElem? (i := 14) rfl)) (hw _ (List.mem_of_getElem? (i := 15) rfl)) e0 (g := (mkF m 1 #[.val (.ref o0), .val (.int p1), .val (.long q2), .second, .val (.int p3), .val (.long q4), .second] [(.ref o0)])) rfl (by rw [hml]; rfl) rfl (hb hby d3_1) (by decide) (W := 0) (by show 2 * 0 + _ ≤ _; exact Nat.le_of_eq rfl) (by decide)
  have K3 : Steps p.tables e below _ (T2.setTop (mkF m 4 #[.val (.ref o0), .val (.int p1), .val (.long q2), .second, .val (.int p3), .val (.long q4), .second] [])) := K1.trans (st2 _ (Steps.refl _))
  have K4 : Steps p.tables e below _ (T2.setTop (mkF m 6 #[.val (.ref o0), .val (.int p1), .val (.long q2), .second, .val (.int p3), .val (.long q4), .second] [(.int p1), (.ref o0)])) := K3.trans (by
    show Steps p.tables e below (T2.setTop (mkF m 4 #[.val (.ref o0), .val (.int p1), .val (.long q2), .second, .val (.int p3), .val (.long q4), .second] [])) _
    refine XS.aloadN X2.here hx rfl (hb hby d3_4) rfl rfl ?_
    show Steps p.tables e below (T2.setTop (mkF m 5 #[.val (.ref o0), .val (.int p1), .val (.long q2), .second, .val (.int p3), .val (.long q4), .second] [(.ref o0)])) _
    refine XS.iloadN X2.here hx rfl (hb hby d3_5) rfl ?_
    show Steps p.tables e below (T2.setTop (mkF m 6 #[.val (.ref o0), .val (.int p1), .val (.long q2), .second, .val (.int p3), .val (.long q4), .second] [(.int p1), (.ref o0)])) _
    exact Steps.refl _)
  obtain ⟨T5, h5, X5, e5, W5, st5⟩ := putFN X2 hx hZ hown (hw _ (List.mem_of_getElem? (i := 16) rfl)) Via.refl e2 F_hasFrom_o0 E_o0 (Or.inr ⟨(hw _ (List.mem_of_getElem? (i := 17) rfl)), rfl, hnm⟩) (hw _ (List.mem_of_getElem? (i := 8) rfl)) (ty := .boolean) (v' := (.int (p1 &&& 1))) (by decide) rfl (fits_nar_bool _) (g := (mkF m 6 #[.val (.ref o0), .val (.int p1), .val (.long q2), .second, .val (.int p3), .val (.long q4), .second] [(.int p1), (.ref o0)])) rfl rfl (hb hby d3_6)
  have K6 : Steps p.tables e below _ (T5.setTop (mkF m 9 #[.val (.ref o0), .val (.int p1), .val (.long q2), .second, .val (.int p3), .val (.long q4), .second] [])) := K4.trans (st5 _ (Steps.refl _))
  have Fw5 : Fld Z h5 o0 "com/example/spanfold/spanfold/Range" "hasFrom" "Z" (.int (p1 &&& 1)) := F_hasFrom_o0.same W5
  have N5 := Fr.snoc X5 N0 g_o0
  have K7 : Steps p.tables e below _ (T5.setTop (mkF m 11 #[.val (.ref o0), .val (.int p1), .val (.long q2), .second, .val (.int p3), .val (.long q4), .second] [(.long q2), (.ref o0)])) := K6.trans (by
    show Steps p.tables e below (T5.setTop (mkF m 9 #[.val (.ref o0), .val (.int p1), .val (.long q2), .second, .val (.int p3), .val (.long q4), .second] [])) _
    refine XS.aloadN X5.here hx rfl (hb hby d3_9) rfl rfl ?_
    show Steps p.tables e below (T5.setTop (mkF m 10 #[.val (.ref o0), .val (.int p1), .val (.long q2), .second, .val (.int p3), .val (.long q4), .second] [(.ref o0)])) _
    refine XS.lloadN X5.here hx rfl (hb hby d3_10) rfl ?_
    show Steps p.tables e below (T5.setTop (mkF m 11 #[.val (.ref o0), .val (.int p1), .val (.long q2), .second, .val (.int p3), .val (.long q4), .second] [(.long q2), (.ref o0)])) _
    exact Steps.refl _)
  have E_8 : Exa Z h5 o0 "com/example/spanfold/spanfold/Range" := (E_o0.wr W5)
  have F_9 : Fld Z h5 o0 "com/example/spanfold/spanfold/Range" "from" "J" u6_from := (F_from_o0.other W5 (Or.inr (slot_ne (Or.inr (hw _ (List.mem_of_getElem? (i := 19) rfl))) (Or.inr (hw _ (List.mem_of_getElem? (i := 17) rfl))) (by decide) (t := .long) (t' := .boolean) (by decide) (by decide))))
  obtain ⟨T10, h10, X10, e10, W10, st10⟩ := putF X5 hx hZ hown (host := "") (Or.inl (hw _ (List.mem_of_getElem? (i := 18) rfl))) Via.refl e5 F_9 E_8 (Or.inr ⟨(hw _ (List.mem_of_getElem? (i := 19) rfl)), rfl, hnm⟩) (hw _ (List.mem_of_getElem? (i := 8) rfl)) (ty := .long) (by decide) rfl rfl (g := (mkF m 11 #[.val (.ref o0), .val (.int p1), .val (.long q2), .second, .val (.int p3), .val (.long q4), .second] [(.long q2), (.ref o0)])) rfl rfl (hb hby d3_11)
  have K11 : Steps p.tables e below _ (T10.setTop (mkF m 14 #[.val (.ref o0), .val (.int p1), .val (.long q2), .second, .val (.int p3), .val (.long q4), .second] [])) := K7.trans (st10 _ (Steps.refl _))
  have Fw10 : Fld Z h10 o0 "com/example/spanfold/spanfold/Range" "from" "J" (.long q2) := F_9.same W10
  have N10 := Fr.snoc X10 N5 g_o0
  have K12 : Steps p.tables e below _ (T10.setTop (mkF m 17 #[.val (.ref o0), .val (.int p1), .val (.long q2), .second, .val (.int p3), .val (.long q4), .second] [(.int p3), (.ref o0)])) := K11.trans (by
    show Steps p.tables e below (T10.setTop (mkF m 14 #[.val (.ref o0), .val (.int p1), .val (.long q2), .second, .val (.int p3), .val (.long q4), .second] [])) _
    refine XS.aloadN X10.here hx rfl (hb hby d3_14) rfl rfl ?_
    show Steps p.tables e below (T10.setTop (mkF m 15 #[.val (.ref o0), .val (.int p1), .val (.long q2), .second, .val (.int p3), .val (.long q4), .second] [(.ref o0)])) _
    refine XS.iload X10.here hx rfl (hb hby d3_15) rfl ?_
    show Steps p.tables e below (T10.setTop (mkF m 17 #[.val (.ref o0), .val (.int p1), .val (.long q2), .second, .val (.int p3), .val (.long q4), .second] [(.int p3), (.ref o0)])) _
    exact Steps.refl _)
  have E_13 : Exa Z h10 o0 "com/example/spanfold/spanfold/Range" := (E_8.wr W10)
  have F_14 : Fld Z h10 o0 "com/example/spanfold/spanfold/Range" "hasTo" "Z" u7_hasTo := ((F_hasTo_o0.other W5 (Or.inr (slot_ne (Or.inr (hw _ (List.mem_of_getElem? (i := 21) rfl))) (Or.inr (hw _ (List.mem_of_getElem? (i := 17) rfl))) (by decide) (t := .boolean) (t' := .boolean) (by decide) (by decide)))).other W10 (Or.inr (slot_ne (Or.inr (hw _ (List.mem_of_getElem? (i := 21) rfl))) (Or.inr (hw _ (List.mem_of_getElem? (i := 19) rfl))) (by decide) (t := .boolean) (t' := .long) (by decide) (by decide))))
  obtain ⟨T15, h15, X15, e15, W15, st15⟩ := putFN X10 hx hZ hown (hw _ (List.mem_of_getElem? (i := 20) rfl)) Via.refl e10 F_14 E_13 (Or.inr ⟨(hw _ (List.mem_of_getElem? (i := 21) rfl)), rfl, hnm⟩) (hw _ (List.mem_of_getElem? (i := 8) rfl)) (ty := .boolean) (v' := (.int (p3 &&& 1))) (by decide) rfl (fits_nar_bool _) (g := (mkF m 17 #[.val (.ref o0), .val (.int p1), .val (.long q2), .second, .val (.int p3), .val (.long q4), .second] [(.int p3), (.ref o0)])) rfl rfl (hb hby d3_17)
  have K16 : Steps p.tables e below _ (T15.setTop (mkF m 20 #[.val (.ref o0), .val (.int p1), .val (.long q2), .second, .val (.int p3), .val (.long q4), .second] [])) := K12.trans (st15 _ (Steps.refl _))
  have Fw15 : Fld Z h15 o0 "com/example/spanfold/spanfold/Range" "hasTo" "Z" (.int (p3 &&& 1)) := F_14.same W15
  have N15 := Fr.snoc X15 N10 g_o0
  have K17 : Steps p.tables e below _ (T15.setTop (mkF m 23 #[.val (.ref o0), .val (.int p1), .val (.long q2), .second, .val (.int p3), .val (.long q4), .second] [(.long q4), (.ref o0)])) := K16.trans (by
    show Steps p.tables e below (T15.setTop (mkF m 20 #[.val (.ref o0), .val (.int p1), .val (.long q2), .second, .val (.int p3), .val (.long q4), .second] [])) _
    refine XS.aloadN X15.here hx rfl (hb hby d3_20) rfl rfl ?_
    show Steps p.tables e below (T15.setTop (mkF m 21 #[.val (.ref o0), .val (.int p1), .val (.long q2), .second, .val (.int p3), .val (.long q4), .second] [(.ref o0)])) _
    refine XS.lload X15.here hx rfl (hb hby d3_21) rfl ?_
    show Steps p.tables e below (T15.setTop (mkF m 23 #[.val (.ref o0), .val (.int p1), .val (.long q2), .second, .val (.int p3), .val (.long q4), .second] [(.long q4), (.ref o0)])) _
    exact Steps.refl _)
  have E_18 : Exa Z h15 o0 "com/example/spanfold/spanfold/Range" := (E_13.wr W15)
  have F_19 : Fld Z h15 o0 "com/example/spanfold/spanfold/Range" "to" "J" u8_to := (((F_to_o0.other W5 (Or.inr (slot_ne (Or.inr (hw _ (List.mem_of_getElem? (i := 23) rfl))) (Or.inr (hw _ (List.mem_of_getElem? (i := 17) rfl))) (by decide) (t := .long) (t' := .boolean) (by decide) (by decide)))).other W10 (Or.inr (slot_ne (Or.inr (hw _ (List.mem_of_getElem? (i := 23) rfl))) (Or.inr (hw _ (List.mem_of_getElem? (i := 19) rfl))) (by decide) (t := .long) (t' := .long) (by decide) (by decide)))).other W15 (Or.inr (slot_ne (Or.inr (hw _ (List.mem_of_getElem? (i := 23) rfl))) (Or.inr (hw _ (List.mem_of_getElem? (i := 21) rfl))) (by decide) (t := .long) (t' := .boolean) (by decide) (by decide))))
  obtain ⟨T20, h20, X20, e20, W20, st20⟩ := putF X15 hx hZ hown (host := "") (Or.inl (hw _ (List.mem_of_getElem? (i := 22) rfl))) Via.refl e15 F_19 E_18 (Or.inr ⟨(hw _ (List.mem_of_getElem? (i := 23) rfl)), rfl, hnm⟩) (hw _ (List.mem_of_getElem? (i := 8) rfl)) (ty := .long) (by decide) rfl rfl (g := (mkF m 23 #[.val (.ref o0), .val (.int p1), .val (.long q2), .second, .val (.int p3), .val (.long q4), .second] [(.long q4), (.ref o0)])) rfl rfl (hb hby d3_23)
  have K21 : Steps p.tables e below _ (T20.setTop (mkF m 26 #[.val (.ref o0), .val (.int p1), .val (.long q2), .second, .val (.int p3), .val (.long q4), .second] [])) := K17.trans (st20 _ (Steps.refl _))
  have Fw20 : Fld Z h20 o0 "com/example/spanfold/spanfold/Range" "to" "J" (.long q4) := F_19.same W20
  have N20 := Fr.snoc X20 N15 g_o0
  obtain ⟨fs, hr, hrun, hended, hW, hsame⟩ := X20.leave (v := none) (fun _ => rfl)
  have K_22 : Keep h0 h20 [o0] := ((((Kp0.wr W5 (Or.inl (List.mem_of_getElem? (i := 0) rfl))).wr W10 (Or.inl (List.mem_of_getElem? (i := 0) rfl))).wr W15 (Or.inl (List.mem_of_getElem? (i := 0) rfl))).wr W20 (Or.inl (List.mem_of_getElem? (i := 0) rfl)))
  have E_23 : Exa Z h20 o0 "com/example/spanfold/spanfold/Range" := (E_18.wr W20)
  have F_24 : Fld Z h20 o0 "com/example/spanfold/spanfold/Range" "hasFrom" "Z" (.int (p1 &&& 1)) := (((Fw5.other W10 (Or.inr (slot_ne (Or.inr (hw _ (List.mem_of_getElem? (i := 17) rfl))) (Or.inr (hw _ (List.mem_of_getElem? (i := 19) rfl))) (by decide) (t := .boolean) (t' := .long) (by decide) (by decide)))).other W15 (Or.inr (slot_ne (Or.inr (hw _ (List.mem_of_getElem? (i := 17) rfl))) (Or.inr (hw _ (List.mem_of_getElem? (i := 21) rfl))) (by decide) (t := .boolean) (t' := .boolean) (by decide) (by decide)))).other W20 (Or.inr (slot_ne (Or.inr (hw _ (List.mem_of_getElem? (i := 17) rfl))) (Or.inr (hw _ (List.mem_of_getElem? (i := 23) rfl))) (by decide) (t := .boolean) (t' := .long) (by decide) (by decide))))
  have F_25 : Fld Z h20 o0 "com/example/spanfold/spanfold/Range" "from" "J" (.long q2) := ((Fw10.other W15 (Or.inr (slot_ne (Or.inr (hw _ (List.mem_of_getElem? (i := 19) rfl))) (Or.inr (hw _ (List.mem_of_getElem? (i := 21) rfl))) (by decide) (t := .long) (t' := .boolean) (by decide) (by decide)))).other W20 (Or.inr (slot_ne (Or.inr (hw _ (List.mem_of_getElem? (i := 19) rfl))) (Or.inr (hw _ (List.mem_of_getElem? (i := 23) rfl))) (by decide) (t := .long) (t' := .long) (by decide) (by decide))))
  have F_26 : Fld Z h20 o0 "com/example/spanfold/spanfold/Range" "hasTo" "Z" (.int (p3 &&& 1)) := (Fw15.other W20 (Or.inr (slot_ne (Or.inr (hw _ (List.mem_of_getElem? (i := 21) rfl))) (Or.inr (hw _ (List.mem_of_getElem? (i := 23) rfl))) (by decide) (t := .boolean) (t' := .long) (by decide) (by decide))))
  refine ⟨_, _, K21.trans (X20.returnOut hx Bd.returns (hb hby d3_26) hr), hrun, hended, _, _, rfl, ?_, ⟨_, rfl⟩, hW, hsame.mono (by decide) (by first | decide | omega)⟩
  show Q_rm3 Z o0 p1 q2 p3 q4 u5_hasFrom u6_from u7_hasTo u8_to h0 n0 _ T20.heap _
  rw [e20]
  exact ⟨rfl, N20, K_22, E_23, F_24, F_25, F_26, Fw20⟩
theorem d5_0 : decode prog_12_method_7_code 0 = .ok (.aload_n 0, 1) := by decide +kernel
theorem d5_1 : decode prog_12_method_7_code 1 = .ok (.getfield 7, 3) := by decide +kernel
theorem d5_4 : decode prog_12_method_7_code 4 = .ok (.ifCond .eq 26, 3) := by decide +kernel
theorem d5_30 : decode prog_12_method_7_code 30 = .ok (.iconst 0, 1) := by decide +kernel
theorem d5_7 : decode prog_12_method_7_code 7 = .ok (.aload_n 0, 1) := by decide +kernel
theorem d5_8 : decode prog_12_method_7_code 8 = .ok (.getfield 17, 3) := by decide +kernel
theorem d5_11 : decode prog_12_method_7_code 11 = .ok (.ifCond .eq 19, 3) := by decide +kernel
theorem d5_14 : decode prog_12_method_7_code 14 = .ok (.aload_n 0, 1) := by decide +kernel
theorem d5_15 : decode prog_12_method_7_code 15 = .ok (.getfield 13, 3) := by decide +kernel
theorem d5_18 : decode prog_12_method_7_code 18 = .ok (.aload_n 0, 1) := by decide +kernel
theorem d5_19 : decode prog_12_method_7_code 19 = .ok (.getfield 20, 3) := by decide +kernel
theorem d5_22 : decode prog_12_method_7_code 22 = .ok (.lcmp, 1) := by decide +kernel
theorem d5_23 : decode prog_12_method_7_code 23 = .ok (.ifCond .ne 7, 3) := by decide +kernel
theorem d5_26 : decode prog_12_method_7_code 26 = .ok (.iconst 1, 1) := by decide +kernel
theorem d5_27 : decode prog_12_method_7_code 27 = .ok (.goto 4, 3) := by decide +kernel
def Q_rm5 (Z : State) (o0 : Addr) (w1_hasFrom : Int32) (w2_hasTo : Int32) (w3_from : Int64) (w4_to : Int64) (h0 : Heap) (n0 : Nat) (v : Option Value) (h : Heap) (L : List Loc) : Prop := v = some (.int ((if w1_hasFrom = (0 : Int32) then (0 : Int32) else (if w2_hasTo = (0 : Int32) then (0 : Int32) else (if w3_from = w4_to then (1 : Int32) else (0 : Int32)))) &&& 1)) ∧ Fr n0 L ∧ h = h0
theorem pn_5 : plainName "com/example/spanfold/spanfold/Range" = true := by first | (simp [plainName, overriddenIn]; done) | decide +kernel
theorem ef_5 (m : MethodId) (x0 : Addr) : entryFrame m #[(.ref x0)] 1 = mkF m 0 #[.val (.ref x0)] [] := by first | (simp [entryFrame, mkF, argsToLocals, Value.category]; done) | rfl
theorem d5_31 : decode prog_12_method_7_code 31 = .ok (.ireturn, 1) := by decide +kernel
set_option maxRecDepth 65536 in
set_option maxHeartbeats 40000000 in
theorem rm5 (l : Launch) (Z : State) (a0 : Array Value) (hw : ∀ d ∈ tables_1, d.before a0 Z = true) (ws : List Jvm.Cond) (o0 : Addr) (w1_hasFrom : Int32) (w2_hasTo : Int32) (w3_from : Int64) (w4_to : Int64) (h0 : Heap) (n0 : Nat) (Z0 : n0 ≤ h0.size) (F_hasFrom_o0 : Fld Z h0 o0 "com/example/spanfold/spanfold/Range" "hasFrom" "Z" (.int w1_hasFrom)) (F_hasTo_o0 : Fld Z h0 o0 "com/example/spanfold/spanfold/Range" "hasTo" "Z" (.int w2_hasTo)) (F_from_o0 : Fld Z h0 o0 "com/example/spanfold/spanfold/Range" "from" "J" (.long w3_from)) (F_to_o0 : Fld Z h0 o0 "com/example/spanfold/spanfold/Range" "to" "J" (.long w4_to)) :
    MetFree l (⟨"com/example/spanfold/spanfold/Range", "isEmpty", "()Z"⟩ : MethodName) (head1 (Jvm.Cond.code (⟨"com/example/spanfold/spanfold/Range", "isEmpty", "()Z"⟩ : MethodName) prog_12_method_7_code 1 (some .boolean) :: ws) ({ frames := 0, cells := 0, slots := 0, locals := 0 } : Room)) (fun a U => a = #[(.ref o0)] ∧ Z.Warmed39 U.vm ∧ U.heap = h0) (fun _ _ _ _ _ => True) (fun _ U o U' => ∃ v L, o = .returned v ∧ Q_rm5 Z o0 w1_hasFrom w2_hasTo w3_from w4_to h0 n0 v U'.heap L ∧ FrameEnd U o U' L ({ frames := 0, cells := 0, slots := 0, locals := 0 } : Room).cells ({ frames := 0, cells := 0, slots := 0, locals := 0 } : Room).slots) := by
  refine MetFree.of_bodySF (plainFor_of_name pn_5) hisR ?_
  intro p e s m args below meth c s₁ Bd hml0 hP hK
  obtain ⟨rfl, hZ, hh⟩ := hP
  have hx := Bd.exec
  have hby := Bd.bytes
  have hml : c.maxLocals = 1 := hml0
  have hown : s.vm.findClass "com/example/spanfold/spanfold/Range" = some m.cls := findClass_of_methodNamed Bd.named
  have hnm := (name_of_methodNamed Bd.named Bd.method).1
  have X0 : Stand p l e ({ frames := 0, cells := 0, slots := 0, locals := 0 } : Room) s m #[(.ref o0)] below meth c s₁ [] 0 0 := Stand.of_body Bd
  have e0 : s₁.heap = h0 := by rw [← hh, Bd.state]; rfl
  have N0 := Fr.nil n0
  have Kp0 : Keep h0 h0 [] := Keep.refl _ _
  have K0 : Steps p.tables e below (s₁.setTop (entryFrame m #[(.ref o0)] 1)) (s₁.setTop (mkF m 0 #[.val (.ref o0)] [])) := castTop (ef_5 m o0) (Steps.refl _)
  have K1 : Steps p.tables e below _ (s₁.setTop (mkF m 1 #[.val (.ref o0)] [(.ref o0)])) := K0.trans (by
    show Steps p.tables e below (s₁.setTop (mkF m 0 #[.val (.ref o0)] [])) _
    refine XS.aloadN X0.here hx rfl (hb hby d5_0) rfl rfl ?_
    show Steps p.tables e below (s₁.setTop (mkF m 1 #[.val (.ref o0)] [(.ref o0)])) _
    exact Steps.refl _)
  obtain ⟨T2, X2, e2, st2⟩ := getF X0 hx hZ hown (host := "") (Or.inl (hw _ (List.mem_of_getElem? (i := 16) rfl))) Via.refl e0 F_hasFrom_o0 (g := (mkF m 1 #[.val (.ref o0)] [(.ref o0)])) rfl rfl (hb hby d5_1)
  have K3 : Steps p.tables e below _ (T2.setTop (mkF m 4 #[.val (.ref o0)] [(.int w1_hasFrom)])) := K1.trans (st2 _ (Steps.refl _))
  obtain ⟨T4, L4, v4_0, X4, e4, N4, hv4_0, S4⟩ : ∃ (T4 : State) (L4 : List Loc) (v4_0 : Int32), Stand p l e ({ frames := 0, cells := 0, slots := 0, locals := 0 } : Room) s m #[(.ref o0)] below meth c T4 L4 0 0 ∧ T4.heap = h0 ∧ Fr n0 L4 ∧ (if w1_hasFrom = (0 : Int32) then (0 : Int32) else (if w2_hasTo = (0 : Int32) then (0 : Int32) else (if w3_from = w4_to then (1 : Int32) else (0 : Int32)))) = v4_0 ∧ Steps p.tables e below (T2.setTop (mkF m 4 #[.val (.ref o0)] [(.int w1_hasFrom)])) (T4.setTop (mkF m 31 #[.val (.ref o0)] [(.int v4_0)])) := by
    have R4 : Steps p.tables e below (T2.setTop (mkF m 4 #[.val (.ref o0)] [(.int w1_hasFrom)])) (T2.setTop (mkF m 4 #[.val (.ref o0)] [(.int w1_hasFrom)])) := Steps.refl _
    by_cases hc4 : w1_hasFrom = (0 : Int32)
    · have K5 : Steps p.tables e below _ (T2.setTop (mkF m 31 #[.val (.ref o0)] [(.int (0 : Int32))])) := R4.trans (by
        show Steps p.tables e below (T2.setTop (mkF m 4 #[.val (.ref o0)] [(.int w1_hasFrom)])) _
        refine XS.ifYes X2.here hx rfl (pc0 := 4) (pc' := 30) rfl (hb hby d5_4) rfl ((if0 _ _).trans (teq hc4).1) (by decide) (by decide) ?_
        show Steps p.tables e below (T2.setTop (mkF m 30 #[.val (.ref o0)] [])) _
        refine XS.iconst X2.here hx rfl (hb hby d5_30) ?_
        show Steps p.tables e below (T2.setTop (mkF m 31 #[.val (.ref o0)] [(.int (0 : Int32))])) _
        exact Steps.refl _)
      exact ⟨T2, _, (0 : Int32), X2, e2, N0, (by rw [if_pos hc4]), K5⟩
    · have K6 : Steps p.tables e below _ (T2.setTop (mkF m 8 #[.val (.ref o0)] [(.ref o0)])) := R4.trans (by
        show Steps p.tables e below (T2.setTop (mkF m 4 #[.val (.ref o0)] [(.int w1_hasFrom)])) _
        refine XS.ifNo X2.here hx rfl (hb hby d5_4) rfl ((if0 _ _).trans (feq hc4).1) ?_
        show Steps p.tables e below (T2.setTop (mkF m 7 #[.val (.ref o0)] [])) _
        refine XS.aloadN X2.here hx rfl (hb hby d5_7) rfl rfl ?_
        show Steps p.tables e below (T2.setTop (mkF m 8 #[.val (.ref o0)] [(.ref o0)])) _
        exact Steps.refl _)
      obtain ⟨T7, X7, e7, st7⟩ := getF X2 hx hZ hown (host := "") (Or.inl (hw _ (List.mem_of_getElem? (i := 20) rfl))) Via.refl e2 F_hasTo_o0 (g := (mkF m 8 #[.val (.ref o0)] [(.ref o0)])) rfl rfl (hb hby d5_8)
      have K8 : Steps p.tables e below _ (T7.setTop (mkF m 11 #[.val (.ref o0)] [(.int w2_hasTo)])) := K6.trans (st7 _ (Steps.refl _))
      by_cases hc11 : w2_hasTo = (0 : Int32)
      · have K9 : Steps p.tables e below _ (T7.setTop (mkF m 31 #[.val (.ref o0)] [(.int (0 : Int32))])) := K8.trans (by
          show Steps p.tables e below (T7.setTop (mkF m 11 #[.val (.ref o0)] [(.int w2_hasTo)])) _
          refine XS.ifYes X7.here hx rfl (pc0 := 11) (pc' := 30) rfl (hb hby d5_11) rfl ((if0 _ _).trans (teq hc11).1) (by decide) (by decide) ?_
          show Steps p.tables e below (T7.setTop (mkF m 30 #[.val (.ref o0)] [])) _
          refine XS.iconst X7.here hx rfl (hb hby d5_30) ?_
          show Steps p.tables e below (T7.setTop (mkF m 31 #[.val (.ref o0)] [(.int (0 : Int32))])) _
          exact Steps.refl _)
        exact ⟨T7, _, (0 : Int32), X7, e7, N0, (by rw [if_neg hc4, if_pos hc11]), K9⟩
      · have K10 : Steps p.tables e below _ (T7.setTop (mkF m 15 #[.val (.ref o0)] [(.ref o0)])) := K8.trans (by
          show Steps p.tables e below (T7.setTop (mkF m 11 #[.val (.ref o0)] [(.int w2_hasTo)])) _
          refine XS.ifNo X7.here hx rfl (hb hby d5_11) rfl ((if0 _ _).trans (feq hc11).1) ?_
          show Steps p.tables e below (T7.setTop (mkF m 14 #[.val (.ref o0)] [])) _
          refine XS.aloadN X7.here hx rfl (hb hby d5_14) rfl rfl ?_
          show Steps p.tables e below (T7.setTop (mkF m 15 #[.val (.ref o0)] [(.ref o0)])) _
          exact Steps.refl _)
        obtain ⟨T11, X11, e11, st11⟩ := getF X7 hx hZ hown (host := "") (Or.inl (hw _ (List.mem_of_getElem? (i := 18) rfl))) Via.refl e7 F_from_o0 (g := (mkF m 15 #[.val (.ref o0)] [(.ref o0)])) rfl rfl (hb hby d5_15)
        have K12 : Steps p.tables e below _ (T11.setTop (mkF m 18 #[.val (.ref o0)] [(.long w3_from)])) := K10.trans (st11 _ (Steps.refl _))
        have K13 : Steps p.tables e below _ (T11.setTop (mkF m 19 #[.val (.ref o0)] [(.ref o0), (.long w3_from)])) := K12.trans (by
          show Steps p.tables e below (T11.setTop (mkF m 18 #[.val (.ref o0)] [(.long w3_from)])) _
          refine XS.aloadN X11.here hx rfl (hb hby d5_18) rfl rfl ?_
          show Steps p.tables e below (T11.setTop (mkF m 19 #[.val (.ref o0)] [(.ref o0), (.long w3_from)])) _
          exact Steps.refl _)
        obtain ⟨T14, X14, e14, st14⟩ := getF X11 hx hZ hown (host := "") (Or.inl (hw _ (List.mem_of_getElem? (i := 22) rfl))) Via.refl e11 F_to_o0 (g := (mkF m 19 #[.val (.ref o0)] [(.ref o0), (.long w3_from)])) rfl rfl (hb hby d5_19)
        have K15 : Steps p.tables e below _ (T14.setTop (mkF m 22 #[.val (.ref o0)] [(.long w4_to), (.long w3_from)])) := K13.trans (st14 _ (Steps.refl _))
        have K16 : Steps p.tables e below _ (T14.setTop (mkF m 23 #[.val (.ref o0)] [(.int (lcmpW w3_from w4_to))])) := K15.trans (by
          show Steps p.tables e below (T14.setTop (mkF m 22 #[.val (.ref o0)] [(.long w4_to), (.long w3_from)])) _
          refine XS.lcmp X14.here hx rfl (hb hby d5_22) rfl ?_
          show Steps p.tables e below (T14.setTop (mkF m 23 #[.val (.ref o0)] [(.int (lcmpW w3_from w4_to))])) _
          exact Steps.refl _)
        by_cases hc23 : w3_from = w4_to
        · have K17 : Steps p.tables e below _ (T14.setTop (mkF m 31 #[.val (.ref o0)] [(.int (1 : Int32))])) := K16.trans (by
            show Steps p.tables e below (T14.setTop (mkF m 23 #[.val (.ref o0)] [(.int (lcmpW w3_from w4_to))])) _
            refine XS.ifNo X14.here hx rfl (hb hby d5_23) rfl ((if0 _ _).trans (teq ((lw_eq w3_from w4_to).mpr hc23)).2) ?_
            show Steps p.tables e below (T14.setTop (mkF m 26 #[.val (.ref o0)] [])) _
            refine XS.iconst X14.here hx rfl (hb hby d5_26) ?_
            show Steps p.tables e below (T14.setTop (mkF m 27 #[.val (.ref o0)] [(.int (1 : Int32))])) _
            refine XS.goto X14.here hx rfl (pc0 := 27) (pc' := 31) rfl (hb hby d5_27) (by decide) (by decide) ?_
            show Steps p.tables e below (T14.setTop (mkF m 31 #[.val (.ref o0)] [(.int (1 : Int32))])) _
            exact Steps.refl _)
          exact ⟨T14, _, (1 : Int32), X14, e14, N0, (by rw [if_neg hc4, if_neg hc11, if_pos hc23]), K17⟩
        · have K18 : Steps p.tables e below _ (T14.setTop (mkF m 31 #[.val (.ref o0)] [(.int (0 : Int32))])) := K16.trans (by
            show Steps p.tables e below (T14.setTop (mkF m 23 #[.val (.ref o0)] [(.int (lcmpW w3_from w4_to))])) _
            refine XS.ifYes X14.here hx rfl (pc0 := 23) (pc' := 30) rfl (hb hby d5_23) rfl ((if0 _ _).trans (feq (fun z => hc23 ((lw_eq w3_from w4_to).mp z))).2) (by decide) (by decide) ?_
            show Steps p.tables e below (T14.setTop (mkF m 30 #[.val (.ref o0)] [])) _
            refine XS.iconst X14.here hx rfl (hb hby d5_30) ?_
            show Steps p.tables e below (T14.setTop (mkF m 31 #[.val (.ref o0)] [(.int (0 : Int32))])) _
            exact Steps.refl _)
          exact ⟨T14, _, (0 : Int32), X14, e14, N0, (by rw [if_neg hc4, if_neg hc11, if_neg hc23]), K18⟩
  have K19 := K3.trans S4
  subst hv4_0
  obtain ⟨fs, hr, hrun, hended, hW, hsame⟩ := X4.leave (v := some (.int ((if w1_hasFrom = (0 : Int32) then (0 : Int32) else (if w2_hasTo = (0 : Int32) then (0 : Int32) else (if w3_from = w4_to then (1 : Int32) else (0 : Int32)))) &&& 1))) (fun h => by rw [Bd.returns] at h; cases h)
  refine ⟨_, _, K19.trans (retN X4 hx (t := .boolean) Bd.returns (by simp) (hb hby d5_31) hr), hrun, hended, _, _, rfl, ?_, ⟨_, rfl⟩, hW, hsame.mono (by decide) (by first | decide | omega)⟩
  show Q_rm5 Z o0 w1_hasFrom w2_hasTo w3_from w4_to h0 n0 _ T4.heap _
  rw [e4]
  exact ⟨rfl, N4, rfl⟩
theorem d6_0 : decode method_2_code 0 = .ok (.iload_n 0, 1) := by decide +kernel
theorem d6_1 : decode method_2_code 1 = .ok (.ifCond .eq 10, 3) := by decide +kernel
theorem d6_11 : decode method_2_code 11 = .ok (.iload_n 3, 1) := by decide +kernel
theorem d6_12 : decode method_2_code 12 = .ok (.ifCond .eq 11, 3) := by decide +kernel
theorem d6_23 : decode method_2_code 23 = .ok (.iconst 1, 1) := by decide +kernel
theorem d6_24 : decode method_2_code 24 = .ok (.goto 4, 3) := by decide +kernel
theorem d6_15 : decode method_2_code 15 = .ok (.lload 6, 2) := by decide +kernel
theorem d6_17 : decode method_2_code 17 = .ok (.lload 4, 2) := by decide +kernel
theorem d6_19 : decode method_2_code 19 = .ok (.lcmp, 1) := by decide +kernel
theorem d6_20 : decode method_2_code 20 = .ok (.ifCond .ge 7, 3) := by decide +kernel
theorem d6_27 : decode method_2_code 27 = .ok (.iconst 0, 1) := by decide +kernel
theorem d6_4 : decode method_2_code 4 = .ok (.lload_n 1, 1) := by decide +kernel
theorem d6_5 : decode method_2_code 5 = .ok (.lload 6, 2) := by decide +kernel
theorem d6_7 : decode method_2_code 7 = .ok (.lcmp, 1) := by decide +kernel
theorem d6_8 : decode method_2_code 8 = .ok (.ifCond .gt 19, 3) := by decide +kernel
def Q_rm6 (Z : State) (p0 : Int32) (q1 : Int64) (p2 : Int32) (q3 : Int64) (q4 : Int64) (h0 : Heap) (n0 : Nat) (v : Option Value) (h : Heap) (L : List Loc) : Prop := v = some (.int ((if p0 = (0 : Int32) then (if p2 = (0 : Int32) then (1 : Int32) else (if q4 < q3 then (1 : Int32) else (0 : Int32))) else (if q4 < q1 then (0 : Int32) else (if p2 = (0 : Int32) then (1 : Int32) else (if q4 < q3 then (1 : Int32) else (0 : Int32))))) &&& 1)) ∧ Fr n0 L ∧ h = h0
theorem pn_6 : plainName "com/example/spanfold/spanfold/RangeIsEmptyPinLaw" = true := by first | (simp [plainName, overriddenIn]; done) | decide +kernel
theorem ef_6 (m : MethodId) (x0 : Int32) (x1 : Int64) (x2 : Int32) (x3 : Int64) (x4 : Int64) : entryFrame m #[(.int x0), (.long x1), (.int x2), (.long x3), (.long x4)] 8 = mkF m 0 #[.val (.int x0), .val (.long x1), .second, .val (.int x2), .val (.long x3), .second, .val (.long x4), .second] [] := by first | (simp [entryFrame, mkF, argsToLocals, Value.category]; done) | rfl
theorem d6_28 : decode method_2_code 28 = .ok (.ireturn, 1) := by decide +kernel
set_option maxRecDepth 65536 in
set_option maxHeartbeats 40000000 in
theorem rm6 (l : Launch) (Z : State) (a0 : Array Value) (hw : ∀ d ∈ tables_1, d.before a0 Z = true) (ws : List Jvm.Cond) (p0 : Int32) (q1 : Int64) (p2 : Int32) (q3 : Int64) (q4 : Int64) (h0 : Heap) (n0 : Nat) (Z0 : n0 ≤ h0.size) :
    MetFree l (⟨"com/example/spanfold/spanfold/RangeIsEmptyPinLaw", "holds", "(ZJZJJ)Z"⟩ : MethodName) (head1 (Jvm.Cond.code (⟨"com/example/spanfold/spanfold/RangeIsEmptyPinLaw", "holds", "(ZJZJJ)Z"⟩ : MethodName) method_2_code 8 (some .boolean) :: ws) ({ frames := 0, cells := 0, slots := 0, locals := 0 } : Room)) (fun a U => a = #[(.int p0), (.long q1), (.int p2), (.long q3), (.long q4)] ∧ Z.Warmed39 U.vm ∧ U.heap = h0) (fun _ _ _ _ _ => True) (fun _ U o U' => ∃ v L, o = .returned v ∧ Q_rm6 Z p0 q1 p2 q3 q4 h0 n0 v U'.heap L ∧ FrameEnd U o U' L ({ frames := 0, cells := 0, slots := 0, locals := 0 } : Room).cells ({ frames := 0, cells := 0, slots := 0, locals := 0 } : Room).slots) := by
  refine MetFree.of_bodySF (plainFor_of_name pn_6) hisR ?_
  intro p e s m args below meth c s₁ Bd hml0 hP hK
  obtain ⟨rfl, hZ, hh⟩ := hP
  have hx := Bd.exec
  have hby := Bd.bytes
  have hml : c.maxLocals = 8 := hml0
  have hown : s.vm.findClass "com/example/spanfold/spanfold/RangeIsEmptyPinLaw" = some m.cls := findClass_of_methodNamed Bd.named
  have hnm := (name_of_methodNamed Bd.named Bd.method).1
  have X0 : Stand p l e ({ frames := 0, cells := 0, slots := 0, locals := 0 } : Room) s m #[(.int p0), (.long q1), (.int p2), (.long q3), (.long q4)] below meth c s₁ [] 0 0 := Stand.of_body Bd
  have e0 : s₁.heap = h0 := by rw [← hh, Bd.state]; rfl
  have N0 := Fr.nil n0
  have Kp0 : Keep h0 h0 [] := Keep.refl _ _
  have K0 : Steps p.tables e below (s₁.setTop (entryFrame m #[(.int p0), (.long q1), (.int p2), (.long q3), (.long q4)] 8)) (s₁.setTop (mkF m 0 #[.val (.int p0), .val (.long q1), .second, .val (.int p2), .val (.long q3), .second, .val (.long q4), .second] [])) := castTop (ef_6 m p0 q1 p2 q3 q4) (Steps.refl _)
  have K1 : Steps p.tables e below _ (s₁.setTop (mkF m 1 #[.val (.int p0), .val (.long q1), .second, .val (.int p2), .val (.long q3), .second, .val (.long q4), .second] [(.int p0)])) := K0.trans (by
    show Steps p.tables e below (s₁.setTop (mkF m 0 #[.val (.int p0), .val (.long q1), .second, .val (.int p2), .val (.long q3), .second, .val (.long q4), .second] [])) _
    refine XS.iloadN X0.here hx rfl (hb hby d6_0) rfl ?_
    show Steps p.tables e below (s₁.setTop (mkF m 1 #[.val (.int p0), .val (.long q1), .second, .val (.int p2), .val (.long q3), .second, .val (.long q4), .second] [(.int p0)])) _
    exact Steps.refl _)
  obtain ⟨v2_0, hv2_0, S2⟩ : ∃ (v2_0 : Int32), (if p0 = (0 : Int32) then (if p2 = (0 : Int32) then (1 : Int32) else (if q4 < q3 then (1 : Int32) else (0 : Int32))) else (if q4 < q1 then (0 : Int32) else (if p2 = (0 : Int32) then (1 : Int32) else (if q4 < q3 then (1 : Int32) else (0 : Int32))))) = v2_0 ∧ Steps p.tables e below (s₁.setTop (mkF m 1 #[.val (.int p0), .val (.long q1), .second, .val (.int p2), .val (.long q3), .second, .val (.long q4), .second] [(.int p0)])) (s₁.setTop (mkF m 28 #[.val (.int p0), .val (.long q1), .second, .val (.int p2), .val (.long q3), .second, .val (.long q4), .second] [(.int v2_0)])) := by
    have R2 : Steps p.tables e below (s₁.setTop (mkF m 1 #[.val (.int p0), .val (.long q1), .second, .val (.int p2), .val (.long q3), .second, .val (.long q4), .second] [(.int p0)])) (s₁.setTop (mkF m 1 #[.val (.int p0), .val (.long q1), .second, .val (.int p2), .val (.long q3), .second, .val (.long q4), .second] [(.int p0)])) := Steps.refl _
    by_cases hc1 : p0 = (0 : Int32)
    · have K3 : Steps p.tables e below _ (s₁.setTop (mkF m 12 #[.val (.int p0), .val (.long q1), .second, .val (.int p2), .val (.long q3), .second, .val (.long q4), .second] [(.int p2)])) := R2.trans (by
        show Steps p.tables e below (s₁.setTop (mkF m 1 #[.val (.int p0), .val (.long q1), .second, .val (.int p2), .val (.long q3), .second, .val (.long q4), .second] [(.int p0)])) _
        refine XS.ifYes X0.here hx rfl (pc0 := 1) (pc' := 11) rfl (hb hby d6_1) rfl ((if0 _ _).trans (teq hc1).1) (by decide) (by decide) ?_
        show Steps p.tables e below (s₁.setTop (mkF m 11 #[.val (.int p0), .val (.long q1), .second, .val (.int p2), .val (.long q3), .second, .val (.long q4), .second] [])) _
        refine XS.iloadN X0.here hx rfl (hb hby d6_11) rfl ?_
        show Steps p.tables e below (s₁.setTop (mkF m 12 #[.val (.int p0), .val (.long q1), .second, .val (.int p2), .val (.long q3), .second, .val (.long q4), .second] [(.int p2)])) _
        exact Steps.refl _)
      by_cases hc12 : p2 = (0 : Int32)
      · have K4 : Steps p.tables e below _ (s₁.setTop (mkF m 28 #[.val (.int p0), .val (.long q1), .second, .val (.int p2), .val (.long q3), .second, .val (.long q4), .second] [(.int (1 : Int32))])) := K3.trans (by
          show Steps p.tables e below (s₁.setTop (mkF m 12 #[.val (.int p0), .val (.long q1), .second, .val (.int p2), .val (.long q3), .second, .val (.long q4), .second] [(.int p2)])) _
          refine XS.ifYes X0.here hx rfl (pc0 := 12) (pc' := 23) rfl (hb hby d6_12) rfl ((if0 _ _).trans (teq hc12).1) (by decide) (by decide) ?_
          show Steps p.tables e below (s₁.setTop (mkF m 23 #[.val (.int p0), .val (.long q1), .second, .val (.int p2), .val (.long q3), .second, .val (.long q4), .second] [])) _
          refine XS.iconst X0.here hx rfl (hb hby d6_23) ?_
          show Steps p.tables e below (s₁.setTop (mkF m 24 #[.val (.int p0), .val (.long q1), .second, .val (.int p2), .val (.long q3), .second, .val (.long q4), .second] [(.int (1 : Int32))])) _
          refine XS.goto X0.here hx rfl (pc0 := 24) (pc' := 28) rfl (hb hby d6_24) (by decide) (by decide) ?_
          show Steps p.tables e below (s₁.setTop (mkF m 28 #[.val (.int p0), .val (.long q1), .second, .val (.int p2), .val (.long q3), .second, .val (.long q4), .second] [(.int (1 : Int32))])) _
          exact Steps.refl _)
        exact ⟨(1 : Int32), (by rw [if_pos hc1, if_pos hc12]), K4⟩
      · have K5 : Steps p.tables e below _ (s₁.setTop (mkF m 20 #[.val (.int p0), .val (.long q1), .second, .val (.int p2), .val (.long q3), .second, .val (.long q4), .second] [(.int (lcmpW q4 q3))])) := K3.trans (by
          show Steps p.tables e below (s₁.setTop (mkF m 12 #[.val (.int p0), .val (.long q1), .second, .val (.int p2), .val (.long q3), .second, .val (.long q4), .second] [(.int p2)])) _
          refine XS.ifNo X0.here hx rfl (hb hby d6_12) rfl ((if0 _ _).trans (feq hc12).1) ?_
          show Steps p.tables e below (s₁.setTop (mkF m 15 #[.val (.int p0), .val (.long q1), .second, .val (.int p2), .val (.long q3), .second, .val (.long q4), .second] [])) _
          refine XS.lload X0.here hx rfl (hb hby d6_15) rfl ?_
          show Steps p.tables e below (s₁.setTop (mkF m 17 #[.val (.int p0), .val (.long q1), .second, .val (.int p2), .val (.long q3), .second, .val (.long q4), .second] [(.long q4)])) _
          refine XS.lload X0.here hx rfl (hb hby d6_17) rfl ?_
          show Steps p.tables e below (s₁.setTop (mkF m 19 #[.val (.int p0), .val (.long q1), .second, .val (.int p2), .val (.long q3), .second, .val (.long q4), .second] [(.long q3), (.long q4)])) _
          refine XS.lcmp X0.here hx rfl (hb hby d6_19) rfl ?_
          show Steps p.tables e below (s₁.setTop (mkF m 20 #[.val (.int p0), .val (.long q1), .second, .val (.int p2), .val (.long q3), .second, .val (.long q4), .second] [(.int (lcmpW q4 q3))])) _
          exact Steps.refl _)
        by_cases hc20 : q4 < q3
        · have K6 : Steps p.tables e below _ (s₁.setTop (mkF m 28 #[.val (.int p0), .val (.long q1), .second, .val (.int p2), .val (.long q3), .second, .val (.long q4), .second] [(.int (1 : Int32))])) := K5.trans (by
            show Steps p.tables e below (s₁.setTop (mkF m 20 #[.val (.int p0), .val (.long q1), .second, .val (.int p2), .val (.long q3), .second, .val (.long q4), .second] [(.int (lcmpW q4 q3))])) _
            refine XS.ifNo X0.here hx rfl (hb hby d6_20) rfl ((if0 _ _).trans (tlt ((lw_lt q4 q3).mpr hc20)).2.1) ?_
            show Steps p.tables e below (s₁.setTop (mkF m 23 #[.val (.int p0), .val (.long q1), .second, .val (.int p2), .val (.long q3), .second, .val (.long q4), .second] [])) _
            refine XS.iconst X0.here hx rfl (hb hby d6_23) ?_
            show Steps p.tables e below (s₁.setTop (mkF m 24 #[.val (.int p0), .val (.long q1), .second, .val (.int p2), .val (.long q3), .second, .val (.long q4), .second] [(.int (1 : Int32))])) _
            refine XS.goto X0.here hx rfl (pc0 := 24) (pc' := 28) rfl (hb hby d6_24) (by decide) (by decide) ?_
            show Steps p.tables e below (s₁.setTop (mkF m 28 #[.val (.int p0), .val (.long q1), .second, .val (.int p2), .val (.long q3), .second, .val (.long q4), .second] [(.int (1 : Int32))])) _
            exact Steps.refl _)
          exact ⟨(1 : Int32), (by rw [if_pos hc1, if_neg hc12, if_pos hc20]), K6⟩
        · have K7 : Steps p.tables e below _ (s₁.setTop (mkF m 28 #[.val (.int p0), .val (.long q1), .second, .val (.int p2), .val (.long q3), .second, .val (.long q4), .second] [(.int (0 : Int32))])) := K5.trans (by
            show Steps p.tables e below (s₁.setTop (mkF m 20 #[.val (.int p0), .val (.long q1), .second, .val (.int p2), .val (.long q3), .second, .val (.long q4), .second] [(.int (lcmpW q4 q3))])) _
            refine XS.ifYes X0.here hx rfl (pc0 := 20) (pc' := 27) rfl (hb hby d6_20) rfl ((if0 _ _).trans (flt (fun z => hc20 ((lw_lt q4 q3).mp z))).2.1) (by decide) (by decide) ?_
            show Steps p.tables e below (s₁.setTop (mkF m 27 #[.val (.int p0), .val (.long q1), .second, .val (.int p2), .val (.long q3), .second, .val (.long q4), .second] [])) _
            refine XS.iconst X0.here hx rfl (hb hby d6_27) ?_
            show Steps p.tables e below (s₁.setTop (mkF m 28 #[.val (.int p0), .val (.long q1), .second, .val (.int p2), .val (.long q3), .second, .val (.long q4), .second] [(.int (0 : Int32))])) _
            exact Steps.refl _)
          exact ⟨(0 : Int32), (by rw [if_pos hc1, if_neg hc12, if_neg hc20]), K7⟩
    · have K8 : Steps p.tables e below _ (s₁.setTop (mkF m 8 #[.val (.int p0), .val (.long q1), .second, .val (.int p2), .val (.long q3), .second, .val (.long q4), .second] [(.int (lcmpW q1 q4))])) := R2.trans (by
        show Steps p.tables e below (s₁.setTop (mkF m 1 #[.val (.int p0), .val (.long q1), .second, .val (.int p2), .val (.long q3), .second, .val (.long q4), .second] [(.int p0)])) _
        refine XS.ifNo X0.here hx rfl (hb hby d6_1) rfl ((if0 _ _).trans (feq hc1).1) ?_
        show Steps p.tables e below (s₁.setTop (mkF m 4 #[.val (.int p0), .val (.long q1), .second, .val (.int p2), .val (.long q3), .second, .val (.long q4), .second] [])) _
        refine XS.lloadN X0.here hx rfl (hb hby d6_4) rfl ?_
        show Steps p.tables e below (s₁.setTop (mkF m 5 #[.val (.int p0), .val (.long q1), .second, .val (.int p2), .val (.long q3), .second, .val (.long q4), .second] [(.long q1)])) _
        refine XS.lload X0.here hx rfl (hb hby d6_5) rfl ?_
        show Steps p.tables e below (s₁.setTop (mkF m 7 #[.val (.int p0), .val (.long q1), .second, .val (.int p2), .val (.long q3), .second, .val (.long q4), .second] [(.long q4), (.long q1)])) _
        refine XS.lcmp X0.here hx rfl (hb hby d6_7) rfl ?_
        show Steps p.tables e below (s₁.setTop (mkF m 8 #[.val (.int p0), .val (.long q1), .second, .val (.int p2), .val (.long q3), .second, .val (.long q4), .second] [(.int (lcmpW q1 q4))])) _
        exact Steps.refl _)
      by_cases hc8 : q4 < q1
      · have K9 : Steps p.tables e below _ (s₁.setTop (mkF m 28 #[.val (.int p0), .val (.long q1), .second, .val (.int p2), .val (.long q3), .second, .val (.long q4), .second] [(.int (0 : Int32))])) := K8.trans (by
          show Steps p.tables e below (s₁.setTop (mkF m 8 #[.val (.int p0), .val (.long q1), .second, .val (.int p2), .val (.long q3), .second, .val (.long q4), .second] [(.int (lcmpW q1 q4))])) _
          refine XS.ifYes X0.here hx rfl (pc0 := 8) (pc' := 27) rfl (hb hby d6_8) rfl ((if0 _ _).trans (tlt ((lw_gt q1 q4).mpr hc8)).2.2.1) (by decide) (by decide) ?_
          show Steps p.tables e below (s₁.setTop (mkF m 27 #[.val (.int p0), .val (.long q1), .second, .val (.int p2), .val (.long q3), .second, .val (.long q4), .second] [])) _
          refine XS.iconst X0.here hx rfl (hb hby d6_27) ?_
          show Steps p.tables e below (s₁.setTop (mkF m 28 #[.val (.int p0), .val (.long q1), .second, .val (.int p2), .val (.long q3), .second, .val (.long q4), .second] [(.int (0 : Int32))])) _
          exact Steps.refl _)
        exact ⟨(0 : Int32), (by rw [if_neg hc1, if_pos hc8]), K9⟩
      · have K10 : Steps p.tables e below _ (s₁.setTop (mkF m 12 #[.val (.int p0), .val (.long q1), .second, .val (.int p2), .val (.long q3), .second, .val (.long q4), .second] [(.int p2)])) := K8.trans (by
          show Steps p.tables e below (s₁.setTop (mkF m 8 #[.val (.int p0), .val (.long q1), .second, .val (.int p2), .val (.long q3), .second, .val (.long q4), .second] [(.int (lcmpW q1 q4))])) _
          refine XS.ifNo X0.here hx rfl (hb hby d6_8) rfl ((if0 _ _).trans (flt (fun z => hc8 ((lw_gt q1 q4).mp z))).2.2.1) ?_
          show Steps p.tables e below (s₁.setTop (mkF m 11 #[.val (.int p0), .val (.long q1), .second, .val (.int p2), .val (.long q3), .second, .val (.long q4), .second] [])) _
          refine XS.iloadN X0.here hx rfl (hb hby d6_11) rfl ?_
          show Steps p.tables e below (s₁.setTop (mkF m 12 #[.val (.int p0), .val (.long q1), .second, .val (.int p2), .val (.long q3), .second, .val (.long q4), .second] [(.int p2)])) _
          exact Steps.refl _)
        by_cases hc12 : p2 = (0 : Int32)
        · have K11 : Steps p.tables e below _ (s₁.setTop (mkF m 28 #[.val (.int p0), .val (.long q1), .second, .val (.int p2), .val (.long q3), .second, .val (.long q4), .second] [(.int (1 : Int32))])) := K10.trans (by
            show Steps p.tables e below (s₁.setTop (mkF m 12 #[.val (.int p0), .val (.long q1), .second, .val (.int p2), .val (.long q3), .second, .val (.long q4), .second] [(.int p2)])) _
            refine XS.ifYes X0.here hx rfl (pc0 := 12) (pc' := 23) rfl (hb hby d6_12) rfl ((if0 _ _).trans (teq hc12).1) (by decide) (by decide) ?_
            show Steps p.tables e below (s₁.setTop (mkF m 23 #[.val (.int p0), .val (.long q1), .second, .val (.int p2), .val (.long q3), .second, .val (.long q4), .second] [])) _
            refine XS.iconst X0.here hx rfl (hb hby d6_23) ?_
            show Steps p.tables e below (s₁.setTop (mkF m 24 #[.val (.int p0), .val (.long q1), .second, .val (.int p2), .val (.long q3), .second, .val (.long q4), .second] [(.int (1 : Int32))])) _
            refine XS.goto X0.here hx rfl (pc0 := 24) (pc' := 28) rfl (hb hby d6_24) (by decide) (by decide) ?_
            show Steps p.tables e below (s₁.setTop (mkF m 28 #[.val (.int p0), .val (.long q1), .second, .val (.int p2), .val (.long q3), .second, .val (.long q4), .second] [(.int (1 : Int32))])) _
            exact Steps.refl _)
          exact ⟨(1 : Int32), (by rw [if_neg hc1, if_neg hc8, if_pos hc12]), K11⟩
        · have K12 : Steps p.tables e below _ (s₁.setTop (mkF m 20 #[.val (.int p0), .val (.long q1), .second, .val (.int p2), .val (.long q3), .second, .val (.long q4), .second] [(.int (lcmpW q4 q3))])) := K10.trans (by
            show Steps p.tables e below (s₁.setTop (mkF m 12 #[.val (.int p0), .val (.long q1), .second, .val (.int p2), .val (.long q3), .second, .val (.long q4), .second] [(.int p2)])) _
            refine XS.ifNo X0.here hx rfl (hb hby d6_12) rfl ((if0 _ _).trans (feq hc12).1) ?_
            show Steps p.tables e below (s₁.setTop (mkF m 15 #[.val (.int p0), .val (.long q1), .second, .val (.int p2), .val (.long q3), .second, .val (.long q4), .second] [])) _
            refine XS.lload X0.here hx rfl (hb hby d6_15) rfl ?_
            show Steps p.tables e below (s₁.setTop (mkF m 17 #[.val (.int p0), .val (.long q1), .second, .val (.int p2), .val (.long q3), .second, .val (.long q4), .second] [(.long q4)])) _
            refine XS.lload X0.here hx rfl (hb hby d6_17) rfl ?_
            show Steps p.tables e below (s₁.setTop (mkF m 19 #[.val (.int p0), .val (.long q1), .second, .val (.int p2), .val (.long q3), .second, .val (.long q4), .second] [(.long q3), (.long q4)])) _
            refine XS.lcmp X0.here hx rfl (hb hby d6_19) rfl ?_
            show Steps p.tables e below (s₁.setTop (mkF m 20 #[.val (.int p0), .val (.long q1), .second, .val (.int p2), .val (.long q3), .second, .val (.long q4), .second] [(.int (lcmpW q4 q3))])) _
            exact Steps.refl _)
          by_cases hc20 : q4 < q3
          · have K13 : Steps p.tables e below _ (s₁.setTop (mkF m 28 #[.val (.int p0), .val (.long q1), .second, .val (.int p2), .val (.long q3), .second, .val (.long q4), .second] [(.int (1 : Int32))])) := K12.trans (by
              show Steps p.tables e below (s₁.setTop (mkF m 20 #[.val (.int p0), .val (.long q1), .second, .val (.int p2), .val (.long q3), .second, .val (.long q4), .second] [(.int (lcmpW q4 q3))])) _
              refine XS.ifNo X0.here hx rfl (hb hby d6_20) rfl ((if0 _ _).trans (tlt ((lw_lt q4 q3).mpr hc20)).2.1) ?_
              show Steps p.tables e below (s₁.setTop (mkF m 23 #[.val (.int p0), .val (.long q1), .second, .val (.int p2), .val (.long q3), .second, .val (.long q4), .second] [])) _
              refine XS.iconst X0.here hx rfl (hb hby d6_23) ?_
              show Steps p.tables e below (s₁.setTop (mkF m 24 #[.val (.int p0), .val (.long q1), .second, .val (.int p2), .val (.long q3), .second, .val (.long q4), .second] [(.int (1 : Int32))])) _
              refine XS.goto X0.here hx rfl (pc0 := 24) (pc' := 28) rfl (hb hby d6_24) (by decide) (by decide) ?_
              show Steps p.tables e below (s₁.setTop (mkF m 28 #[.val (.int p0), .val (.long q1), .second, .val (.int p2), .val (.long q3), .second, .val (.long q4), .second] [(.int (1 : Int32))])) _
              exact Steps.refl _)
            exact ⟨(1 : Int32), (by rw [if_neg hc1, if_neg hc8, if_neg hc12, if_pos hc20]), K13⟩
          · have K14 : Steps p.tables e below _ (s₁.setTop (mkF m 28 #[.val (.int p0), .val (.long q1), .second, .val (.int p2), .val (.long q3), .second, .val (.long q4), .second] [(.int (0 : Int32))])) := K12.trans (by
              show Steps p.tables e below (s₁.setTop (mkF m 20 #[.val (.int p0), .val (.long q1), .second, .val (.int p2), .val (.long q3), .second, .val (.long q4), .second] [(.int (lcmpW q4 q3))])) _
              refine XS.ifYes X0.here hx rfl (pc0 := 20) (pc' := 27) rfl (hb hby d6_20) rfl ((if0 _ _).trans (flt (fun z => hc20 ((lw_lt q4 q3).mp z))).2.1) (by decide) (by decide) ?_
              show Steps p.tables e below (s₁.setTop (mkF m 27 #[.val (.int p0), .val (.long q1), .second, .val (.int p2), .val (.long q3), .second, .val (.long q4), .second] [])) _
              refine XS.iconst X0.here hx rfl (hb hby d6_27) ?_
              show Steps p.tables e below (s₁.setTop (mkF m 28 #[.val (.int p0), .val (.long q1), .second, .val (.int p2), .val (.long q3), .second, .val (.long q4), .second] [(.int (0 : Int32))])) _
              exact Steps.refl _)
            exact ⟨(0 : Int32), (by rw [if_neg hc1, if_neg hc8, if_neg hc12, if_neg hc20]), K14⟩
  have K15 := K1.trans S2
  subst hv2_0
  obtain ⟨fs, hr, hrun, hended, hW, hsame⟩ := X0.leave (v := some (.int ((if p0 = (0 : Int32) then (if p2 = (0 : Int32) then (1 : Int32) else (if q4 < q3 then (1 : Int32) else (0 : Int32))) else (if q4 < q1 then (0 : Int32) else (if p2 = (0 : Int32) then (1 : Int32) else (if q4 < q3 then (1 : Int32) else (0 : Int32))))) &&& 1))) (fun h => by rw [Bd.returns] at h; cases h)
  refine ⟨_, _, K15.trans (retN X0 hx (t := .boolean) Bd.returns (by simp) (hb hby d6_28) hr), hrun, hended, _, _, rfl, ?_, ⟨_, rfl⟩, hW, hsame.mono (by decide) (by first | decide | omega)⟩
  show Q_rm6 Z p0 q1 p2 q3 q4 h0 n0 _ s₁.heap _
  rw [e0]
  exact ⟨rfl, N0, rfl⟩
theorem pd_0 : parseMethodDescriptor "(JJ)J" = some ⟨[.long, .long], some .long⟩ := by decide +kernel
theorem pd_1 : parseMethodDescriptor "(ZJZJ)V" = some ⟨[.boolean, .long, .boolean, .long], none⟩ := by decide +kernel
theorem pd_2 : parseMethodDescriptor "()Z" = some ⟨[], some .boolean⟩ := by decide +kernel
theorem pd_3 : parseMethodDescriptor "(ZJZJJ)Z" = some ⟨[.boolean, .long, .boolean, .long, .long], some .boolean⟩ := by decide +kernel
def Q_rm0 (n0 : Nat) (v : Option Value) (L : List Loc) : Prop := v = some (.int 1) ∧ Fr n0 L
theorem pn_0 : plainName "com/example/spanfold/spanfold/RangeIsEmptyPinLaw" = true := by first | (simp [plainName, overriddenIn]; done) | decide +kernel
theorem ef_0 (m : MethodId) (x0 : Int32) (x1 : Int64) (x2 : Int64) (x3 : Int64) : entryFrame m #[(.int x0), (.long x1), (.long x2), (.long x3)] maxLocals = mkF m 0 #[.val (.int x0), .val (.long x1), .second, .val (.long x2), .second, .val (.long x3), .second, .unset, .unset, .unset, .unset, .unset, .unset, .unset, .unset] [] := by first | (simp [entryFrame, mkF, argsToLocals, Value.category, maxLocals]; done) | rfl
set_option maxRecDepth 65536 in
set_option maxHeartbeats 4000000 in
theorem own_law_0 (p0 : Int32) (q1 : Int64) (q2 : Int64) (q3 : Int64) (v2_0 : Int32) (v7_0 : Int32) (r13 : Int64) (v16_0 : Int64) (v27_0 : Int64) (v32_0 : Int64) (r42 : Int32) (r49 : Int32) (hv2_0 : (if (p0 &&& (1 : Int32)) = (0 : Int32) then (0 : Int32) else (1 : Int32)) = v2_0) (hv7_0 : (if (p0 &&& (2 : Int32)) = (0 : Int32) then (0 : Int32) else (1 : Int32)) = v7_0) (hr13 : (if q2 < q1 then q2 else q1) = r13) (hv16_0 : (if (p0 &&& (4 : Int32)) = (0 : Int32) then (if q1 < q2 then q2 else q1) else r13) = v16_0) (hv27_0 : (if v2_0 = (0 : Int32) then (0 : Int64) else r13) = v27_0) (hv32_0 : (if v7_0 = (0 : Int32) then (0 : Int64) else v16_0) = v32_0) (hr42 : ((if (v2_0 &&& 1) = (0 : Int32) then (0 : Int32) else (if (v7_0 &&& 1) = (0 : Int32) then (0 : Int32) else (if v27_0 = v32_0 then (1 : Int32) else (0 : Int32)))) &&& 1) = r42) (hr49 : ((if v2_0 = (0 : Int32) then (if v7_0 = (0 : Int32) then (1 : Int32) else (if (0 : Int64) < v16_0 then (1 : Int32) else (0 : Int32))) else (if (0 : Int64) < r13 then (0 : Int32) else (if v7_0 = (0 : Int32) then (1 : Int32) else (if (0 : Int64) < v16_0 then (1 : Int32) else (0 : Int32))))) &&& 1) = r49) (hc95 : v2_0 = (0 : Int32)) (hc100 : v7_0 = (0 : Int32)) (hc125 : r42 = (0 : Int32)) : (r49 &&& 1) = (1 : Int32) := by
  rw [if_pos hc95, if_pos hc100] at hr49
  subst hr49
  decide
set_option maxRecDepth 65536 in
set_option maxHeartbeats 4000000 in
theorem own_law_1 (p0 : Int32) (q1 : Int64) (q2 : Int64) (q3 : Int64) (v2_0 : Int32) (v7_0 : Int32) (r13 : Int64) (v16_0 : Int64) (v27_0 : Int64) (v32_0 : Int64) (r42 : Int32) (r53 : Int32) (v55_0 : Int32) (hv2_0 : (if (p0 &&& (1 : Int32)) = (0 : Int32) then (0 : Int32) else (1 : Int32)) = v2_0) (hv7_0 : (if (p0 &&& (2 : Int32)) = (0 : Int32) then (0 : Int32) else (1 : Int32)) = v7_0) (hr13 : (if q2 < q1 then q2 else q1) = r13) (hv16_0 : (if (p0 &&& (4 : Int32)) = (0 : Int32) then (if q1 < q2 then q2 else q1) else r13) = v16_0) (hv27_0 : (if v2_0 = (0 : Int32) then (0 : Int64) else r13) = v27_0) (hv32_0 : (if v7_0 = (0 : Int32) then (0 : Int64) else v16_0) = v32_0) (hr42 : ((if (v2_0 &&& 1) = (0 : Int32) then (0 : Int32) else (if (v7_0 &&& 1) = (0 : Int32) then (0 : Int32) else (if v27_0 = v32_0 then (1 : Int32) else (0 : Int32)))) &&& 1) = r42) (hr53 : ((if v2_0 = (0 : Int32) then (if v7_0 = (0 : Int32) then (1 : Int32) else (if q3 < v16_0 then (1 : Int32) else (0 : Int32))) else (if q3 < r13 then (0 : Int32) else (if v7_0 = (0 : Int32) then (1 : Int32) else (if q3 < v16_0 then (1 : Int32) else (0 : Int32))))) &&& 1) = r53) (hv55_0 : (if r53 = (0 : Int32) then (1 : Int32) else (0 : Int32)) = v55_0) (hc95 : v2_0 = (0 : Int32)) (hc100 : v7_0 = (0 : Int32)) (hc125 : ¬ (r42 = (0 : Int32))) : (v55_0 &&& 1) = (1 : Int32) := by
  have e42 : r42 = (0 : Int32) := by
    rw [← hr42, hc95]; simp +decide only [if_true]
  exact absurd e42 hc125
set_option maxRecDepth 65536 in
set_option maxHeartbeats 4000000 in
theorem own_law_2 (p0 : Int32) (q1 : Int64) (q2 : Int64) (q3 : Int64) (v2_0 : Int32) (v7_0 : Int32) (r13 : Int64) (v16_0 : Int64) (v27_0 : Int64) (v32_0 : Int64) (r42 : Int32) (v61_0 : Int32) (hv2_0 : (if (p0 &&& (1 : Int32)) = (0 : Int32) then (0 : Int32) else (1 : Int32)) = v2_0) (hv7_0 : (if (p0 &&& (2 : Int32)) = (0 : Int32) then (0 : Int32) else (1 : Int32)) = v7_0) (hr13 : (if q2 < q1 then q2 else q1) = r13) (hv16_0 : (if (p0 &&& (4 : Int32)) = (0 : Int32) then (if q1 < q2 then q2 else q1) else r13) = v16_0) (hv27_0 : (if v2_0 = (0 : Int32) then (0 : Int64) else r13) = v27_0) (hv32_0 : (if v7_0 = (0 : Int32) then (0 : Int64) else v16_0) = v32_0) (hr42 : ((if (v2_0 &&& 1) = (0 : Int32) then (0 : Int32) else (if (v7_0 &&& 1) = (0 : Int32) then (0 : Int32) else (if v27_0 = v32_0 then (1 : Int32) else (0 : Int32)))) &&& 1) = r42) (hv61_0 : (if r42 = (0 : Int32) then (1 : Int32) else (0 : Int32)) = v61_0) (hc95 : v2_0 = (0 : Int32)) (hc100 : ¬ (v7_0 = (0 : Int32))) (hc109 : v16_0 = (-9223372036854775808 : Int64)) : (v61_0 &&& 1) = (1 : Int32) := by
  have e42 : r42 = (0 : Int32) := by
    rw [← hr42, hc95]; simp +decide only [if_true]
  rw [if_pos e42] at hv61_0
  subst hv61_0
  decide
set_option maxRecDepth 65536 in
set_option maxHeartbeats 4000000 in
theorem own_law_3 (p0 : Int32) (q1 : Int64) (q2 : Int64) (q3 : Int64) (v2_0 : Int32) (v7_0 : Int32) (r13 : Int64) (v16_0 : Int64) (v27_0 : Int64) (v32_0 : Int64) (r42 : Int32) (r68 : Int32) (hv2_0 : (if (p0 &&& (1 : Int32)) = (0 : Int32) then (0 : Int32) else (1 : Int32)) = v2_0) (hv7_0 : (if (p0 &&& (2 : Int32)) = (0 : Int32) then (0 : Int32) else (1 : Int32)) = v7_0) (hr13 : (if q2 < q1 then q2 else q1) = r13) (hv16_0 : (if (p0 &&& (4 : Int32)) = (0 : Int32) then (if q1 < q2 then q2 else q1) else r13) = v16_0) (hv27_0 : (if v2_0 = (0 : Int32) then (0 : Int64) else r13) = v27_0) (hv32_0 : (if v7_0 = (0 : Int32) then (0 : Int64) else v16_0) = v32_0) (hr42 : ((if (v2_0 &&& 1) = (0 : Int32) then (0 : Int32) else (if (v7_0 &&& 1) = (0 : Int32) then (0 : Int32) else (if v27_0 = v32_0 then (1 : Int32) else (0 : Int32)))) &&& 1) = r42) (hr68 : ((if v2_0 = (0 : Int32) then (if v7_0 = (0 : Int32) then (1 : Int32) else (if (v16_0 - (1 : Int64)) < v16_0 then (1 : Int32) else (0 : Int32))) else (if (v16_0 - (1 : Int64)) < r13 then (0 : Int32) else (if v7_0 = (0 : Int32) then (1 : Int32) else (if (v16_0 - (1 : Int64)) < v16_0 then (1 : Int32) else (0 : Int32))))) &&& 1) = r68) (hc95 : v2_0 = (0 : Int32)) (hc100 : ¬ (v7_0 = (0 : Int32))) (hc109 : ¬ (v16_0 = (-9223372036854775808 : Int64))) (hc125 : r42 = (0 : Int32)) : (r68 &&& 1) = (1 : Int32) := by
  rw [if_pos hc95, if_neg hc100, if_pos (own_d1 hc109)] at hr68
  subst hr68
  decide
set_option maxRecDepth 65536 in
set_option maxHeartbeats 4000000 in
theorem own_law_4 (p0 : Int32) (q1 : Int64) (q2 : Int64) (q3 : Int64) (v2_0 : Int32) (v7_0 : Int32) (r13 : Int64) (v16_0 : Int64) (v27_0 : Int64) (v32_0 : Int64) (r42 : Int32) (r72 : Int32) (v74_0 : Int32) (hv2_0 : (if (p0 &&& (1 : Int32)) = (0 : Int32) then (0 : Int32) else (1 : Int32)) = v2_0) (hv7_0 : (if (p0 &&& (2 : Int32)) = (0 : Int32) then (0 : Int32) else (1 : Int32)) = v7_0) (hr13 : (if q2 < q1 then q2 else q1) = r13) (hv16_0 : (if (p0 &&& (4 : Int32)) = (0 : Int32) then (if q1 < q2 then q2 else q1) else r13) = v16_0) (hv27_0 : (if v2_0 = (0 : Int32) then (0 : Int64) else r13) = v27_0) (hv32_0 : (if v7_0 = (0 : Int32) then (0 : Int64) else v16_0) = v32_0) (hr42 : ((if (v2_0 &&& 1) = (0 : Int32) then (0 : Int32) else (if (v7_0 &&& 1) = (0 : Int32) then (0 : Int32) else (if v27_0 = v32_0 then (1 : Int32) else (0 : Int32)))) &&& 1) = r42) (hr72 : ((if v2_0 = (0 : Int32) then (if v7_0 = (0 : Int32) then (1 : Int32) else (if q3 < v16_0 then (1 : Int32) else (0 : Int32))) else (if q3 < r13 then (0 : Int32) else (if v7_0 = (0 : Int32) then (1 : Int32) else (if q3 < v16_0 then (1 : Int32) else (0 : Int32))))) &&& 1) = r72) (hv74_0 : (if r72 = (0 : Int32) then (1 : Int32) else (0 : Int32)) = v74_0) (hc95 : v2_0 = (0 : Int32)) (hc100 : ¬ (v7_0 = (0 : Int32))) (hc109 : ¬ (v16_0 = (-9223372036854775808 : Int64))) (hc125 : ¬ (r42 = (0 : Int32))) : (v74_0 &&& 1) = (1 : Int32) := by
  have e42 : r42 = (0 : Int32) := by
    rw [← hr42, hc95]; simp +decide only [if_true]
  exact absurd e42 hc125
set_option maxRecDepth 65536 in
set_option maxHeartbeats 4000000 in
theorem own_law_5 (p0 : Int32) (q1 : Int64) (q2 : Int64) (q3 : Int64) (v2_0 : Int32) (v7_0 : Int32) (r13 : Int64) (v16_0 : Int64) (v27_0 : Int64) (v32_0 : Int64) (r42 : Int32) (r81 : Int32) (hv2_0 : (if (p0 &&& (1 : Int32)) = (0 : Int32) then (0 : Int32) else (1 : Int32)) = v2_0) (hv7_0 : (if (p0 &&& (2 : Int32)) = (0 : Int32) then (0 : Int32) else (1 : Int32)) = v7_0) (hr13 : (if q2 < q1 then q2 else q1) = r13) (hv16_0 : (if (p0 &&& (4 : Int32)) = (0 : Int32) then (if q1 < q2 then q2 else q1) else r13) = v16_0) (hv27_0 : (if v2_0 = (0 : Int32) then (0 : Int64) else r13) = v27_0) (hv32_0 : (if v7_0 = (0 : Int32) then (0 : Int64) else v16_0) = v32_0) (hr42 : ((if (v2_0 &&& 1) = (0 : Int32) then (0 : Int32) else (if (v7_0 &&& 1) = (0 : Int32) then (0 : Int32) else (if v27_0 = v32_0 then (1 : Int32) else (0 : Int32)))) &&& 1) = r42) (hr81 : ((if v2_0 = (0 : Int32) then (if v7_0 = (0 : Int32) then (1 : Int32) else (if r13 < v16_0 then (1 : Int32) else (0 : Int32))) else (if r13 < r13 then (0 : Int32) else (if v7_0 = (0 : Int32) then (1 : Int32) else (if r13 < v16_0 then (1 : Int32) else (0 : Int32))))) &&& 1) = r81) (hc95 : ¬ (v2_0 = (0 : Int32))) (hc125 : r42 = (0 : Int32)) : (r81 &&& 1) = (1 : Int32) := by
  have q2 := (own_b01 hv2_0).resolve_left hc95
  have hmm := own_mm hr13 hv16_0
  rw [if_neg hc95, if_neg Int64.lt_irrefl] at hr81
  by_cases c7 : v7_0 = (0 : Int32)
  · rw [if_pos c7] at hr81
    subst hr81
    decide
  · have q7 := (own_b01 hv7_0).resolve_left c7
    rw [if_neg hc95] at hv27_0
    rw [if_neg c7] at hv32_0
    have hne : ¬ v27_0 = v32_0 := fun q => by
      rw [if_pos q, q2, q7] at hr42
      rw [← hr42] at hc125
      exact absurd hc125 (by decide)
    rw [← hv27_0, ← hv32_0] at hne
    have hlt : r13 < v16_0 := by
      rw [own_lt64] at hmm ⊢
      rw [own_eq64] at hne
      omega
    rw [if_neg c7, if_pos hlt] at hr81
    subst hr81
    decide
set_option maxRecDepth 65536 in
set_option maxHeartbeats 4000000 in
theorem own_law_6 (p0 : Int32) (q1 : Int64) (q2 : Int64) (q3 : Int64) (v2_0 : Int32) (v7_0 : Int32) (r13 : Int64) (v16_0 : Int64) (v27_0 : Int64) (v32_0 : Int64) (r42 : Int32) (r85 : Int32) (v87_0 : Int32) (hv2_0 : (if (p0 &&& (1 : Int32)) = (0 : Int32) then (0 : Int32) else (1 : Int32)) = v2_0) (hv7_0 : (if (p0 &&& (2 : Int32)) = (0 : Int32) then (0 : Int32) else (1 : Int32)) = v7_0) (hr13 : (if q2 < q1 then q2 else q1) = r13) (hv16_0 : (if (p0 &&& (4 : Int32)) = (0 : Int32) then (if q1 < q2 then q2 else q1) else r13) = v16_0) (hv27_0 : (if v2_0 = (0 : Int32) then (0 : Int64) else r13) = v27_0) (hv32_0 : (if v7_0 = (0 : Int32) then (0 : Int64) else v16_0) = v32_0) (hr42 : ((if (v2_0 &&& 1) = (0 : Int32) then (0 : Int32) else (if (v7_0 &&& 1) = (0 : Int32) then (0 : Int32) else (if v27_0 = v32_0 then (1 : Int32) else (0 : Int32)))) &&& 1) = r42) (hr85 : ((if v2_0 = (0 : Int32) then (if v7_0 = (0 : Int32) then (1 : Int32) else (if q3 < v16_0 then (1 : Int32) else (0 : Int32))) else (if q3 < r13 then (0 : Int32) else (if v7_0 = (0 : Int32) then (1 : Int32) else (if q3 < v16_0 then (1 : Int32) else (0 : Int32))))) &&& 1) = r85) (hv87_0 : (if r85 = (0 : Int32) then (1 : Int32) else (0 : Int32)) = v87_0) (hc95 : ¬ (v2_0 = (0 : Int32))) (hc125 : ¬ (r42 = (0 : Int32))) : (v87_0 &&& 1) = (1 : Int32) := by
  have q2 := (own_b01 hv2_0).resolve_left hc95
  have c7 : ¬ v7_0 = (0 : Int32) := fun q => by
    rw [q2, q] at hr42
    apply hc125
    rw [← hr42]
    simp +decide only [if_true, if_false]
  have q7 := (own_b01 hv7_0).resolve_left c7
  rw [if_neg hc95] at hv27_0
  rw [if_neg c7] at hv32_0
  have heq : v27_0 = v32_0 := Classical.byContradiction fun q => by
    rw [if_neg q, q2, q7] at hr42
    apply hc125
    rw [← hr42]
    decide
  rw [← hv27_0, ← hv32_0] at heq
  rw [if_neg hc95] at hr85
  have hz : r85 = (0 : Int32) := by
    rw [← hr85]
    by_cases a : q3 < r13
    · rw [if_pos a]; decide
    · have b : ¬ q3 < v16_0 := by rw [← heq]; exact a
      rw [if_neg a, if_neg c7, if_neg b]; decide
  rw [if_pos hz] at hv87_0
  subst hv87_0
  decide
set_option maxRecDepth 65536 in
set_option maxHeartbeats 40000000 in
theorem rm0 (l : Launch) (Z : State) (a0 : Array Value) (hw : ∀ d ∈ tables_1, d.before a0 Z = true) (ws : List Jvm.Cond) (p0 : Int32) (q1 : Int64) (q2 : Int64) (q3 : Int64) (h0 : Heap) (n0 : Nat) (Z0 : n0 ≤ h0.size) :
    MetFree l x (head1 (Jvm.Cond.code x code maxLocals ret :: ws) room_1) (fun a U => a = #[(.int p0), (.long q1), (.long q2), (.long q3)] ∧ Z.Warmed39 U.vm ∧ U.heap = h0) (fun _ _ _ _ _ => True) (fun _ U o U' => ∃ v L, o = .returned v ∧ Q_rm0 n0 v L ∧ FrameEnd U o U' L 1 4) := by
  refine MetFree.of_bodySF (plainFor_of_name pn_0) hisR ?_
  intro p e s m args below meth c s₁ Bd hml0 hP hK
  obtain ⟨rfl, hZ, hh⟩ := hP
  have hx := Bd.exec
  have hby := Bd.bytes
  have hml : c.maxLocals = 15 := hml0
  have hown : s.vm.findClass "com/example/spanfold/spanfold/RangeIsEmptyPinLaw" = some m.cls := findClass_of_methodNamed Bd.named
  have hnm := (name_of_methodNamed Bd.named Bd.method).1
  have X0 : Stand p l e room_1 s m #[(.int p0), (.long q1), (.long q2), (.long q3)] below meth c s₁ [] 0 0 := Stand.of_body Bd
  have e0 : s₁.heap = h0 := by rw [← hh, Bd.state]; rfl
  have N0 := Fr.nil n0
  have K0 : Steps p.tables e below (s₁.setTop (entryFrame m #[(.int p0), (.long q1), (.long q2), (.long q3)] maxLocals)) (s₁.setTop (mkF m 0 #[.val (.int p0), .val (.long q1), .second, .val (.long q2), .second, .val (.long q3), .second, .unset, .unset, .unset, .unset, .unset, .unset, .unset, .unset] [])) := castTop (ef_0 m p0 q1 q2 q3) (Steps.refl _)
  have K1 : Steps p.tables e below _ (s₁.setTop (mkF m 3 #[.val (.int p0), .val (.long q1), .second, .val (.long q2), .second, .val (.long q3), .second, .unset, .unset, .unset, .unset, .unset, .unset, .unset, .unset] [(.int (p0 &&& (1 : Int32)))])) := K0.trans (by
    show Steps p.tables e below (s₁.setTop (mkF m 0 #[.val (.int p0), .val (.long q1), .second, .val (.long q2), .second, .val (.long q3), .second, .unset, .unset, .unset, .unset, .unset, .unset, .unset, .unset] [])) _
    refine XS.iloadN X0.here hx rfl (hb hby at_0) rfl ?_
    show Steps p.tables e below (s₁.setTop (mkF m 1 #[.val (.int p0), .val (.long q1), .second, .val (.long q2), .second, .val (.long q3), .second, .unset, .unset, .unset, .unset, .unset, .unset, .unset, .unset] [(.int p0)])) _
    refine XS.iconst X0.here hx rfl (hb hby at_1) ?_
    show Steps p.tables e below (s₁.setTop (mkF m 2 #[.val (.int p0), .val (.long q1), .second, .val (.long q2), .second, .val (.long q3), .second, .unset, .unset, .unset, .unset, .unset, .unset, .unset, .unset] [(.int (1 : Int32)), (.int p0)])) _
    refine XS.iand X0.here hx rfl (hb hby at_2) rfl ?_
    show Steps p.tables e below (s₁.setTop (mkF m 3 #[.val (.int p0), .val (.long q1), .second, .val (.long q2), .second, .val (.long q3), .second, .unset, .unset, .unset, .unset, .unset, .unset, .unset, .unset] [(.int (p0 &&& (1 : Int32)))])) _
    exact Steps.refl _)
  obtain ⟨v2_0, hv2_0, S2⟩ : ∃ (v2_0 : Int32), (if (p0 &&& (1 : Int32)) = (0 : Int32) then (0 : Int32) else (1 : Int32)) = v2_0 ∧ Steps p.tables e below (s₁.setTop (mkF m 3 #[.val (.int p0), .val (.long q1), .second, .val (.long q2), .second, .val (.long q3), .second, .unset, .unset, .unset, .unset, .unset, .unset, .unset, .unset] [(.int (p0 &&& (1 : Int32)))])) (s₁.setTop (mkF m 11 #[.val (.int p0), .val (.long q1), .second, .val (.long q2), .second, .val (.long q3), .second, .unset, .unset, .unset, .unset, .unset, .unset, .unset, .unset] [(.int v2_0)])) := by
    have R2 : Steps p.tables e below (s₁.setTop (mkF m 3 #[.val (.int p0), .val (.long q1), .second, .val (.long q2), .second, .val (.long q3), .second, .unset, .unset, .unset, .unset, .unset, .unset, .unset, .unset] [(.int (p0 &&& (1 : Int32)))])) (s₁.setTop (mkF m 3 #[.val (.int p0), .val (.long q1), .second, .val (.long q2), .second, .val (.long q3), .second, .unset, .unset, .unset, .unset, .unset, .unset, .unset, .unset] [(.int (p0 &&& (1 : Int32)))])) := Steps.refl _
    by_cases hc3 : (p0 &&& (1 : Int32)) = (0 : Int32)
    · have K3 : Steps p.tables e below _ (s₁.setTop (mkF m 11 #[.val (.int p0), .val (.long q1), .second, .val (.long q2), .second, .val (.long q3), .second, .unset, .unset, .unset, .unset, .unset, .unset, .unset, .unset] [(.int (0 : Int32))])) := R2.trans (by
        show Steps p.tables e below (s₁.setTop (mkF m 3 #[.val (.int p0), .val (.long q1), .second, .val (.long q2), .second, .val (.long q3), .second, .unset, .unset, .unset, .unset, .unset, .unset, .unset, .unset] [(.int (p0 &&& (1 : Int32)))])) _
        refine XS.ifYes X0.here hx rfl (pc0 := 3) (pc' := 10) rfl (hb hby at_3) rfl ((if0 _ _).trans (teq hc3).1) (by decide) (by decide) ?_
        show Steps p.tables e below (s₁.setTop (mkF m 10 #[.val (.int p0), .val (.long q1), .second, .val (.long q2), .second, .val (.long q3), .second, .unset, .unset, .unset, .unset, .unset, .unset, .unset, .unset] [])) _
        refine XS.iconst X0.here hx rfl (hb hby at_10) ?_
        show Steps p.tables e below (s₁.setTop (mkF m 11 #[.val (.int p0), .val (.long q1), .second, .val (.long q2), .second, .val (.long q3), .second, .unset, .unset, .unset, .unset, .unset, .unset, .unset, .unset] [(.int (0 : Int32))])) _
        exact Steps.refl _)
      exact ⟨(0 : Int32), (by rw [if_pos hc3]), K3⟩
    · have K4 : Steps p.tables e below _ (s₁.setTop (mkF m 11 #[.val (.int p0), .val (.long q1), .second, .val (.long q2), .second, .val (.long q3), .second, .unset, .unset, .unset, .unset, .unset, .unset, .unset, .unset] [(.int (1 : Int32))])) := R2.trans (by
        show Steps p.tables e below (s₁.setTop (mkF m 3 #[.val (.int p0), .val (.long q1), .second, .val (.long q2), .second, .val (.long q3), .second, .unset, .unset, .unset, .unset, .unset, .unset, .unset, .unset] [(.int (p0 &&& (1 : Int32)))])) _
        refine XS.ifNo X0.here hx rfl (hb hby at_3) rfl ((if0 _ _).trans (feq hc3).1) ?_
        show Steps p.tables e below (s₁.setTop (mkF m 6 #[.val (.int p0), .val (.long q1), .second, .val (.long q2), .second, .val (.long q3), .second, .unset, .unset, .unset, .unset, .unset, .unset, .unset, .unset] [])) _
        refine XS.iconst X0.here hx rfl (hb hby at_6) ?_
        show Steps p.tables e below (s₁.setTop (mkF m 7 #[.val (.int p0), .val (.long q1), .second, .val (.long q2), .second, .val (.long q3), .second, .unset, .unset, .unset, .unset, .unset, .unset, .unset, .unset] [(.int (1 : Int32))])) _
        refine XS.goto X0.here hx rfl (pc0 := 7) (pc' := 11) rfl (hb hby at_7) (by decide) (by decide) ?_
        show Steps p.tables e below (s₁.setTop (mkF m 11 #[.val (.int p0), .val (.long q1), .second, .val (.long q2), .second, .val (.long q3), .second, .unset, .unset, .unset, .unset, .unset, .unset, .unset, .unset] [(.int (1 : Int32))])) _
        exact Steps.refl _)
      exact ⟨(1 : Int32), (by rw [if_neg hc3]), K4⟩
  have K5 := K1.trans S2
  have K6 : Steps p.tables e below _ (s₁.setTop (mkF m 16 #[.val (.int p0), .val (.long q1), .second, .val (.long q2), .second, .val (.long q3), .second, .val (.int v2_0), .unset, .unset, .unset, .unset, .unset, .unset, .unset] [(.int (p0 &&& (2 : Int32)))])) := K5.trans (by
    show Steps p.tables e below (s₁.setTop (mkF m 11 #[.val (.int p0), .val (.long q1), .second, .val (.long q2), .second, .val (.long q3), .second, .unset, .unset, .unset, .unset, .unset, .unset, .unset, .unset] [(.int v2_0)])) _
    refine XS.istore X0.here hx rfl (hb hby at_11) rfl (l' := #[.val (.int p0), .val (.long q1), .second, .val (.long q2), .second, .val (.long q3), .second, .val (.int v2_0), .unset, .unset, .unset, .unset, .unset, .unset, .unset]) rfl ?_
    show Steps p.tables e below (s₁.setTop (mkF m 13 #[.val (.int p0), .val (.long q1), .second, .val (.long q2), .second, .val (.long q3), .second, .val (.int v2_0), .unset, .unset, .unset, .unset, .unset, .unset, .unset] [])) _
    refine XS.iloadN X0.here hx rfl (hb hby at_13) rfl ?_
    show Steps p.tables e below (s₁.setTop (mkF m 14 #[.val (.int p0), .val (.long q1), .second, .val (.long q2), .second, .val (.long q3), .second, .val (.int v2_0), .unset, .unset, .unset, .unset, .unset, .unset, .unset] [(.int p0)])) _
    refine XS.iconst X0.here hx rfl (hb hby at_14) ?_
    show Steps p.tables e below (s₁.setTop (mkF m 15 #[.val (.int p0), .val (.long q1), .second, .val (.long q2), .second, .val (.long q3), .second, .val (.int v2_0), .unset, .unset, .unset, .unset, .unset, .unset, .unset] [(.int (2 : Int32)), (.int p0)])) _
    refine XS.iand X0.here hx rfl (hb hby at_15) rfl ?_
    show Steps p.tables e below (s₁.setTop (mkF m 16 #[.val (.int p0), .val (.long q1), .second, .val (.long q2), .second, .val (.long q3), .second, .val (.int v2_0), .unset, .unset, .unset, .unset, .unset, .unset, .unset] [(.int (p0 &&& (2 : Int32)))])) _
    exact Steps.refl _)
  obtain ⟨v7_0, hv7_0, S7⟩ : ∃ (v7_0 : Int32), (if (p0 &&& (2 : Int32)) = (0 : Int32) then (0 : Int32) else (1 : Int32)) = v7_0 ∧ Steps p.tables e below (s₁.setTop (mkF m 16 #[.val (.int p0), .val (.long q1), .second, .val (.long q2), .second, .val (.long q3), .second, .val (.int v2_0), .unset, .unset, .unset, .unset, .unset, .unset, .unset] [(.int (p0 &&& (2 : Int32)))])) (s₁.setTop (mkF m 24 #[.val (.int p0), .val (.long q1), .second, .val (.long q2), .second, .val (.long q3), .second, .val (.int v2_0), .unset, .unset, .unset, .unset, .unset, .unset, .unset] [(.int v7_0)])) := by
    have R7 : Steps p.tables e below (s₁.setTop (mkF m 16 #[.val (.int p0), .val (.long q1), .second, .val (.long q2), .second, .val (.long q3), .second, .val (.int v2_0), .unset, .unset, .unset, .unset, .unset, .unset, .unset] [(.int (p0 &&& (2 : Int32)))])) (s₁.setTop (mkF m 16 #[.val (.int p0), .val (.long q1), .second, .val (.long q2), .second, .val (.long q3), .second, .val (.int v2_0), .unset, .unset, .unset, .unset, .unset, .unset, .unset] [(.int (p0 &&& (2 : Int32)))])) := Steps.refl _
    by_cases hc16 : (p0 &&& (2 : Int32)) = (0 : Int32)
    · have K8 : Steps p.tables e below _ (s₁.setTop (mkF m 24 #[.val (.int p0), .val (.long q1), .second, .val (.long q2), .second, .val (.long q3), .second, .val (.int v2_0), .unset, .unset, .unset, .unset, .unset, .unset, .unset] [(.int (0 : Int32))])) := R7.trans (by
        show Steps p.tables e below (s₁.setTop (mkF m 16 #[.val (.int p0), .val (.long q1), .second, .val (.long q2), .second, .val (.long q3), .second, .val (.int v2_0), .unset, .unset, .unset, .unset, .unset, .unset, .unset] [(.int (p0 &&& (2 : Int32)))])) _
        refine XS.ifYes X0.here hx rfl (pc0 := 16) (pc' := 23) rfl (hb hby at_16) rfl ((if0 _ _).trans (teq hc16).1) (by decide) (by decide) ?_
        show Steps p.tables e below (s₁.setTop (mkF m 23 #[.val (.int p0), .val (.long q1), .second, .val (.long q2), .second, .val (.long q3), .second, .val (.int v2_0), .unset, .unset, .unset, .unset, .unset, .unset, .unset] [])) _
        refine XS.iconst X0.here hx rfl (hb hby at_23) ?_
        show Steps p.tables e below (s₁.setTop (mkF m 24 #[.val (.int p0), .val (.long q1), .second, .val (.long q2), .second, .val (.long q3), .second, .val (.int v2_0), .unset, .unset, .unset, .unset, .unset, .unset, .unset] [(.int (0 : Int32))])) _
        exact Steps.refl _)
      exact ⟨(0 : Int32), (by rw [if_pos hc16]), K8⟩
    · have K9 : Steps p.tables e below _ (s₁.setTop (mkF m 24 #[.val (.int p0), .val (.long q1), .second, .val (.long q2), .second, .val (.long q3), .second, .val (.int v2_0), .unset, .unset, .unset, .unset, .unset, .unset, .unset] [(.int (1 : Int32))])) := R7.trans (by
        show Steps p.tables e below (s₁.setTop (mkF m 16 #[.val (.int p0), .val (.long q1), .second, .val (.long q2), .second, .val (.long q3), .second, .val (.int v2_0), .unset, .unset, .unset, .unset, .unset, .unset, .unset] [(.int (p0 &&& (2 : Int32)))])) _
        refine XS.ifNo X0.here hx rfl (hb hby at_16) rfl ((if0 _ _).trans (feq hc16).1) ?_
        show Steps p.tables e below (s₁.setTop (mkF m 19 #[.val (.int p0), .val (.long q1), .second, .val (.long q2), .second, .val (.long q3), .second, .val (.int v2_0), .unset, .unset, .unset, .unset, .unset, .unset, .unset] [])) _
        refine XS.iconst X0.here hx rfl (hb hby at_19) ?_
        show Steps p.tables e below (s₁.setTop (mkF m 20 #[.val (.int p0), .val (.long q1), .second, .val (.long q2), .second, .val (.long q3), .second, .val (.int v2_0), .unset, .unset, .unset, .unset, .unset, .unset, .unset] [(.int (1 : Int32))])) _
        refine XS.goto X0.here hx rfl (pc0 := 20) (pc' := 24) rfl (hb hby at_20) (by decide) (by decide) ?_
        show Steps p.tables e below (s₁.setTop (mkF m 24 #[.val (.int p0), .val (.long q1), .second, .val (.long q2), .second, .val (.long q3), .second, .val (.int v2_0), .unset, .unset, .unset, .unset, .unset, .unset, .unset] [(.int (1 : Int32))])) _
        exact Steps.refl _)
      exact ⟨(1 : Int32), (by rw [if_neg hc16]), K9⟩
  have K10 := K6.trans S7
  have K11 : Steps p.tables e below _ (s₁.setTop (mkF m 28 #[.val (.int p0), .val (.long q1), .second, .val (.long q2), .second, .val (.long q3), .second, .val (.int v2_0), .val (.int v7_0), .unset, .unset, .unset, .unset, .unset, .unset] [(.long q2), (.long q1)])) := K10.trans (by
    show Steps p.tables e below (s₁.setTop (mkF m 24 #[.val (.int p0), .val (.long q1), .second, .val (.long q2), .second, .val (.long q3), .second, .val (.int v2_0), .unset, .unset, .unset, .unset, .unset, .unset, .unset] [(.int v7_0)])) _
    refine XS.istore X0.here hx rfl (hb hby at_24) rfl (l' := #[.val (.int p0), .val (.long q1), .second, .val (.long q2), .second, .val (.long q3), .second, .val (.int v2_0), .val (.int v7_0), .unset, .unset, .unset, .unset, .unset, .unset]) rfl ?_
    show Steps p.tables e below (s₁.setTop (mkF m 26 #[.val (.int p0), .val (.long q1), .second, .val (.long q2), .second, .val (.long q3), .second, .val (.int v2_0), .val (.int v7_0), .unset, .unset, .unset, .unset, .unset, .unset] [])) _
    refine XS.lloadN X0.here hx rfl (hb hby at_26) rfl ?_
    show Steps p.tables e below (s₁.setTop (mkF m 27 #[.val (.int p0), .val (.long q1), .second, .val (.long q2), .second, .val (.long q3), .second, .val (.int v2_0), .val (.int v7_0), .unset, .unset, .unset, .unset, .unset, .unset] [(.long q1)])) _
    refine XS.lloadN X0.here hx rfl (hb hby at_27) rfl ?_
    show Steps p.tables e below (s₁.setTop (mkF m 28 #[.val (.int p0), .val (.long q1), .second, .val (.long q2), .second, .val (.long q3), .second, .val (.int v2_0), .val (.int v7_0), .unset, .unset, .unset, .unset, .unset, .unset] [(.long q2), (.long q1)])) _
    exact Steps.refl _)
  obtain ⟨_, _, ⟨T12, L12, k12, n12⟩, -, X12, ⟨Lc12, hQ12, l12, y12, z12⟩, st12⟩ := Jvm.LawKit.callS X0 hx (y := (⟨"java/lang/Math", "min", "(JJ)J"⟩ : MethodName)) hown (mvT hZ (hw _ (List.mem_of_getElem? (i := 0) rfl))) (mvT hZ (hw _ (List.mem_of_getElem? (i := 1) rfl))) (mvT hZ (hw _ (List.mem_of_getElem? (i := 2) rfl))) (mvT hZ (hw _ (List.mem_of_getElem? (i := 3) rfl))) (by decide) (backOf (W := 0) (rm1 l Z a0 hw [] q1 q2 h0 n0 Z0 ) hZ (hw _ (List.mem_of_getElem? (i := 3) rfl)) (hw _ (List.mem_of_getElem? (i := 2) rfl)) (by decide) (by decide)) (g := (mkF m 28 #[.val (.int p0), .val (.long q1), .second, .val (.long q2), .second, .val (.long q3), .second, .val (.int v2_0), .val (.int v7_0), .unset, .unset, .unset, .unset, .unset, .unset] [(.long q2), (.long q1)])) rfl (by rw [hml]; rfl) (argsL := [(.long q1), (.long q2)]) (rest := []) (lenOf pd_0 rfl) rfl (by show 2 * 0 + _ ≤ _; exact Nat.le_of_eq rfl) (hb hby at_28) (fun _ _ => ⟨rfl, e0, (by decide : 0 + 0 ≤ _), (by decide : 0 + 0 ≤ _)⟩)
  dsimp only [Pt.U, Pt.locs, Pt.cells, Pt.slots] at X12 l12 y12 z12 st12 hQ12
  subst l12 y12 z12
  obtain ⟨rfl, N12, eh12⟩ := hQ12
  have N12' := Fr.app N0 N12
  have K14 : Steps p.tables e below _ (T12.setTop (mkF m 31 #[.val (.int p0), .val (.long q1), .second, .val (.long q2), .second, .val (.long q3), .second, .val (.int v2_0), .val (.int v7_0), .unset, .unset, .unset, .unset, .unset, .unset] [(.long (if q2 < q1 then q2 else q1))])) := K11.trans (st12 _ (Steps.refl _))
  obtain ⟨r13, hr13⟩ : ∃ z : Int64, (if q2 < q1 then q2 else q1) = z := ⟨_, rfl⟩
  rw [hr13] at K14
  have K15 : Steps p.tables e below _ (T12.setTop (mkF m 36 #[.val (.int p0), .val (.long q1), .second, .val (.long q2), .second, .val (.long q3), .second, .val (.int v2_0), .val (.int v7_0), .val (.long r13), .second, .unset, .unset, .unset, .unset] [(.int (p0 &&& (4 : Int32)))])) := K14.trans (by
    show Steps p.tables e below (T12.setTop (mkF m 31 #[.val (.int p0), .val (.long q1), .second, .val (.long q2), .second, .val (.long q3), .second, .val (.int v2_0), .val (.int v7_0), .unset, .unset, .unset, .unset, .unset, .unset] [(.long r13)])) _
    refine XS.lstore X12.here hx rfl (hb hby at_31) rfl (l' := #[.val (.int p0), .val (.long q1), .second, .val (.long q2), .second, .val (.long q3), .second, .val (.int v2_0), .val (.int v7_0), .val (.long r13), .second, .unset, .unset, .unset, .unset]) rfl ?_
    show Steps p.tables e below (T12.setTop (mkF m 33 #[.val (.int p0), .val (.long q1), .second, .val (.long q2), .second, .val (.long q3), .second, .val (.int v2_0), .val (.int v7_0), .val (.long r13), .second, .unset, .unset, .unset, .unset] [])) _
    refine XS.iloadN X12.here hx rfl (hb hby at_33) rfl ?_
    show Steps p.tables e below (T12.setTop (mkF m 34 #[.val (.int p0), .val (.long q1), .second, .val (.long q2), .second, .val (.long q3), .second, .val (.int v2_0), .val (.int v7_0), .val (.long r13), .second, .unset, .unset, .unset, .unset] [(.int p0)])) _
    refine XS.iconst X12.here hx rfl (hb hby at_34) ?_
    show Steps p.tables e below (T12.setTop (mkF m 35 #[.val (.int p0), .val (.long q1), .second, .val (.long q2), .second, .val (.long q3), .second, .val (.int v2_0), .val (.int v7_0), .val (.long r13), .second, .unset, .unset, .unset, .unset] [(.int (4 : Int32)), (.int p0)])) _
    refine XS.iand X12.here hx rfl (hb hby at_35) rfl ?_
    show Steps p.tables e below (T12.setTop (mkF m 36 #[.val (.int p0), .val (.long q1), .second, .val (.long q2), .second, .val (.long q3), .second, .val (.int v2_0), .val (.int v7_0), .val (.long r13), .second, .unset, .unset, .unset, .unset] [(.int (p0 &&& (4 : Int32)))])) _
    exact Steps.refl _)
  obtain ⟨T16, L16, v16_0, X16, e16, N16, hv16_0, S16⟩ : ∃ (T16 : State) (L16 : List Loc) (v16_0 : Int64), Stand p l e room_1 s m #[(.int p0), (.long q1), (.long q2), (.long q3)] below meth c T16 L16 0 0 ∧ T16.heap = h0 ∧ Fr n0 L16 ∧ (if (p0 &&& (4 : Int32)) = (0 : Int32) then (if q1 < q2 then q2 else q1) else r13) = v16_0 ∧ Steps p.tables e below (T12.setTop (mkF m 36 #[.val (.int p0), .val (.long q1), .second, .val (.long q2), .second, .val (.long q3), .second, .val (.int v2_0), .val (.int v7_0), .val (.long r13), .second, .unset, .unset, .unset, .unset] [(.int (p0 &&& (4 : Int32)))])) (T16.setTop (mkF m 49 #[.val (.int p0), .val (.long q1), .second, .val (.long q2), .second, .val (.long q3), .second, .val (.int v2_0), .val (.int v7_0), .val (.long r13), .second, .unset, .unset, .unset, .unset] [(.long v16_0)])) := by
    have R16 : Steps p.tables e below (T12.setTop (mkF m 36 #[.val (.int p0), .val (.long q1), .second, .val (.long q2), .second, .val (.long q3), .second, .val (.int v2_0), .val (.int v7_0), .val (.long r13), .second, .unset, .unset, .unset, .unset] [(.int (p0 &&& (4 : Int32)))])) (T12.setTop (mkF m 36 #[.val (.int p0), .val (.long q1), .second, .val (.long q2), .second, .val (.long q3), .second, .val (.int v2_0), .val (.int v7_0), .val (.long r13), .second, .unset, .unset, .unset, .unset] [(.int (p0 &&& (4 : Int32)))])) := Steps.refl _
    by_cases hc36 : (p0 &&& (4 : Int32)) = (0 : Int32)
    · have K17 : Steps p.tables e below _ (T12.setTop (mkF m 46 #[.val (.int p0), .val (.long q1), .second, .val (.long q2), .second, .val (.long q3), .second, .val (.int v2_0), .val (.int v7_0), .val (.long r13), .second, .unset, .unset, .unset, .unset] [(.long q2), (.long q1)])) := R16.trans (by
        show Steps p.tables e below (T12.setTop (mkF m 36 #[.val (.int p0), .val (.long q1), .second, .val (.long q2), .second, .val (.long q3), .second, .val (.int v2_0), .val (.int v7_0), .val (.long r13), .second, .unset, .unset, .unset, .unset] [(.int (p0 &&& (4 : Int32)))])) _
        refine XS.ifYes X12.here hx rfl (pc0 := 36) (pc' := 44) rfl (hb hby at_36) rfl ((if0 _ _).trans (teq hc36).1) (by decide) (by decide) ?_
        show Steps p.tables e below (T12.setTop (mkF m 44 #[.val (.int p0), .val (.long q1), .second, .val (.long q2), .second, .val (.long q3), .second, .val (.int v2_0), .val (.int v7_0), .val (.long r13), .second, .unset, .unset, .unset, .unset] [])) _
        refine XS.lloadN X12.here hx rfl (hb hby at_44) rfl ?_
        show Steps p.tables e below (T12.setTop (mkF m 45 #[.val (.int p0), .val (.long q1), .second, .val (.long q2), .second, .val (.long q3), .second, .val (.int v2_0), .val (.int v7_0), .val (.long r13), .second, .unset, .unset, .unset, .unset] [(.long q1)])) _
        refine XS.lloadN X12.here hx rfl (hb hby at_45) rfl ?_
        show Steps p.tables e below (T12.setTop (mkF m 46 #[.val (.int p0), .val (.long q1), .second, .val (.long q2), .second, .val (.long q3), .second, .val (.int v2_0), .val (.int v7_0), .val (.long r13), .second, .unset, .unset, .unset, .unset] [(.long q2), (.long q1)])) _
        exact Steps.refl _)
      obtain ⟨_, _, ⟨T18, L18, k18, n18⟩, -, X18, ⟨Lc18, hQ18, l18, y18, z18⟩, st18⟩ := Jvm.LawKit.callS X12 hx (y := (⟨"java/lang/Math", "max", "(JJ)J"⟩ : MethodName)) hown (mvT hZ (hw _ (List.mem_of_getElem? (i := 4) rfl))) (mvT hZ (hw _ (List.mem_of_getElem? (i := 5) rfl))) (mvT hZ (hw _ (List.mem_of_getElem? (i := 2) rfl))) (mvT hZ (hw _ (List.mem_of_getElem? (i := 6) rfl))) (by decide) (backOf (W := 0) (rm2 l Z a0 hw [] q1 q2 h0 n0 Z0 ) hZ (hw _ (List.mem_of_getElem? (i := 6) rfl)) (hw _ (List.mem_of_getElem? (i := 2) rfl)) (by decide) (by decide)) (g := (mkF m 46 #[.val (.int p0), .val (.long q1), .second, .val (.long q2), .second, .val (.long q3), .second, .val (.int v2_0), .val (.int v7_0), .val (.long r13), .second, .unset, .unset, .unset, .unset] [(.long q2), (.long q1)])) rfl (by rw [hml]; rfl) (argsL := [(.long q1), (.long q2)]) (rest := []) (lenOf pd_0 rfl) rfl (by show 2 * 0 + _ ≤ _; exact Nat.le_of_eq rfl) (hb hby at_46) (fun _ _ => ⟨rfl, eh12, (by decide : 0 + 0 ≤ _), (by decide : 0 + 0 ≤ _)⟩)
      dsimp only [Pt.U, Pt.locs, Pt.cells, Pt.slots] at X18 l18 y18 z18 st18 hQ18
      subst l18 y18 z18
      obtain ⟨rfl, N18, eh18⟩ := hQ18
      have N18' := Fr.app N12' N18
      have K20 : Steps p.tables e below _ (T18.setTop (mkF m 49 #[.val (.int p0), .val (.long q1), .second, .val (.long q2), .second, .val (.long q3), .second, .val (.int v2_0), .val (.int v7_0), .val (.long r13), .second, .unset, .unset, .unset, .unset] [(.long (if q1 < q2 then q2 else q1))])) := K17.trans (st18 _ (Steps.refl _))
      obtain ⟨r19, hr19⟩ : ∃ z : Int64, (if q1 < q2 then q2 else q1) = z := ⟨_, rfl⟩
      rw [hr19] at K20
      subst hr19
      exact ⟨T18, _, (if q1 < q2 then q2 else q1), X18, eh18, N18', (by rw [if_pos hc36]), K20⟩
    · have K21 : Steps p.tables e below _ (T12.setTop (mkF m 49 #[.val (.int p0), .val (.long q1), .second, .val (.long q2), .second, .val (.long q3), .second, .val (.int v2_0), .val (.int v7_0), .val (.long r13), .second, .unset, .unset, .unset, .unset] [(.long r13)])) := R16.trans (by
        show Steps p.tables e below (T12.setTop (mkF m 36 #[.val (.int p0), .val (.long q1), .second, .val (.long q2), .second, .val (.long q3), .second, .val (.int v2_0), .val (.int v7_0), .val (.long r13), .second, .unset, .unset, .unset, .unset] [(.int (p0 &&& (4 : Int32)))])) _
        refine XS.ifNo X12.here hx rfl (hb hby at_36) rfl ((if0 _ _).trans (feq hc36).1) ?_
        show Steps p.tables e below (T12.setTop (mkF m 39 #[.val (.int p0), .val (.long q1), .second, .val (.long q2), .second, .val (.long q3), .second, .val (.int v2_0), .val (.int v7_0), .val (.long r13), .second, .unset, .unset, .unset, .unset] [])) _
        refine XS.lload X12.here hx rfl (hb hby at_39) rfl ?_
        show Steps p.tables e below (T12.setTop (mkF m 41 #[.val (.int p0), .val (.long q1), .second, .val (.long q2), .second, .val (.long q3), .second, .val (.int v2_0), .val (.int v7_0), .val (.long r13), .second, .unset, .unset, .unset, .unset] [(.long r13)])) _
        refine XS.goto X12.here hx rfl (pc0 := 41) (pc' := 49) rfl (hb hby at_41) (by decide) (by decide) ?_
        show Steps p.tables e below (T12.setTop (mkF m 49 #[.val (.int p0), .val (.long q1), .second, .val (.long q2), .second, .val (.long q3), .second, .val (.int v2_0), .val (.int v7_0), .val (.long r13), .second, .unset, .unset, .unset, .unset] [(.long r13)])) _
        exact Steps.refl _)
      exact ⟨T12, _, r13, X12, eh12, N12', (by rw [if_neg hc36]), K21⟩
  have K22 := K15.trans S16
  have K23 : Steps p.tables e below _ (T16.setTop (mkF m 51 #[.val (.int p0), .val (.long q1), .second, .val (.long q2), .second, .val (.long q3), .second, .val (.int v2_0), .val (.int v7_0), .val (.long r13), .second, .val (.long v16_0), .second, .unset, .unset] [])) := K22.trans (by
    show Steps p.tables e below (T16.setTop (mkF m 49 #[.val (.int p0), .val (.long q1), .second, .val (.long q2), .second, .val (.long q3), .second, .val (.int v2_0), .val (.int v7_0), .val (.long r13), .second, .unset, .unset, .unset, .unset] [(.long v16_0)])) _
    refine XS.lstore X16.here hx rfl (hb hby at_49) rfl (l' := #[.val (.int p0), .val (.long q1), .second, .val (.long q2), .second, .val (.long q3), .second, .val (.int v2_0), .val (.int v7_0), .val (.long r13), .second, .val (.long v16_0), .second, .unset, .unset]) rfl ?_
    show Steps p.tables e below (T16.setTop (mkF m 51 #[.val (.int p0), .val (.long q1), .second, .val (.long q2), .second, .val (.long q3), .second, .val (.int v2_0), .val (.int v7_0), .val (.long r13), .second, .val (.long v16_0), .second, .unset, .unset] [])) _
    exact Steps.refl _)
  obtain ⟨T24, h24, X24, e24, E24, A24, D24, -, st24⟩ := newO X16 hx hZ hown (hw _ (List.mem_of_getElem? (i := 7) rfl)) (hw _ (List.mem_of_getElem? (i := 8) rfl)) (hw _ (List.mem_of_getElem? (i := 9) rfl)) e16 (g := (mkF m 51 #[.val (.int p0), .val (.long q1), .second, .val (.long q2), .second, .val (.long q3), .second, .val (.int v2_0), .val (.int v7_0), .val (.long r13), .second, .val (.long v16_0), .second, .unset, .unset] [])) rfl (hb hby at_51) (by decide) (by decide)
  obtain ⟨b24, g24⟩ : ∃ z, z = h0.size := ⟨_, rfl⟩
  rw [← g24] at A24 D24 st24
  have ge_b24 : n0 ≤ b24 := Nat.le_trans Z0 (Nat.le_of_eq g24.symm)
  have K25 : Steps p.tables e below _ (T24.setTop (mkF m 54 #[.val (.int p0), .val (.long q1), .second, .val (.long q2), .second, .val (.long q3), .second, .val (.int v2_0), .val (.int v7_0), .val (.long r13), .second, .val (.long v16_0), .second, .unset, .unset] [(.ref b24)])) := K23.trans (st24 _ (Steps.refl _))
  have F24_hasFrom : Fld Z h24 b24 "com/example/spanfold/spanfold/Range" "hasFrom" "Z" (.int (0 : Int32)) := D24 (Or.inr (hw _ (List.mem_of_getElem? (i := 17) rfl))) (ty := .boolean) (by decide)
  have F24_from : Fld Z h24 b24 "com/example/spanfold/spanfold/Range" "from" "J" (.long (0 : Int64)) := D24 (Or.inr (hw _ (List.mem_of_getElem? (i := 19) rfl))) (ty := .long) (by decide)
  have F24_hasTo : Fld Z h24 b24 "com/example/spanfold/spanfold/Range" "hasTo" "Z" (.int (0 : Int32)) := D24 (Or.inr (hw _ (List.mem_of_getElem? (i := 21) rfl))) (ty := .boolean) (by decide)
  have F24_to : Fld Z h24 b24 "com/example/spanfold/spanfold/Range" "to" "J" (.long (0 : Int64)) := D24 (Or.inr (hw _ (List.mem_of_getElem? (i := 23) rfl))) (ty := .long) (by decide)
  have K26 : Steps p.tables e below _ (T24.setTop (mkF m 59 #[.val (.int p0), .val (.long q1), .second, .val (.long q2), .second, .val (.long q3), .second, .val (.int v2_0), .val (.int v7_0), .val (.long r13), .second, .val (.long v16_0), .second, .unset, .unset] [(.int v2_0), (.int v2_0), (.ref b24), (.ref b24)])) := K25.trans (by
    show Steps p.tables e below (T24.setTop (mkF m 54 #[.val (.int p0), .val (.long q1), .second, .val (.long q2), .second, .val (.long q3), .second, .val (.int v2_0), .val (.int v7_0), .val (.long r13), .second, .val (.long v16_0), .second, .unset, .unset] [(.ref b24)])) _
    refine XS.dup X24.here hx rfl (hb hby at_54) rfl rfl ?_
    show Steps p.tables e below (T24.setTop (mkF m 55 #[.val (.int p0), .val (.long q1), .second, .val (.long q2), .second, .val (.long q3), .second, .val (.int v2_0), .val (.int v7_0), .val (.long r13), .second, .val (.long v16_0), .second, .unset, .unset] [(.ref b24), (.ref b24)])) _
    refine XS.iload X24.here hx rfl (hb hby at_55) rfl ?_
    show Steps p.tables e below (T24.setTop (mkF m 57 #[.val (.int p0), .val (.long q1), .second, .val (.long q2), .second, .val (.long q3), .second, .val (.int v2_0), .val (.int v7_0), .val (.long r13), .second, .val (.long v16_0), .second, .unset, .unset] [(.int v2_0), (.ref b24), (.ref b24)])) _
    refine XS.iload X24.here hx rfl (hb hby at_57) rfl ?_
    show Steps p.tables e below (T24.setTop (mkF m 59 #[.val (.int p0), .val (.long q1), .second, .val (.long q2), .second, .val (.long q3), .second, .val (.int v2_0), .val (.int v7_0), .val (.long r13), .second, .val (.long v16_0), .second, .unset, .unset] [(.int v2_0), (.int v2_0), (.ref b24), (.ref b24)])) _
    exact Steps.refl _)
  obtain ⟨v27_0, hv27_0, S27⟩ : ∃ (v27_0 : Int64), (if v2_0 = (0 : Int32) then (0 : Int64) else r13) = v27_0 ∧ Steps p.tables e below (T24.setTop (mkF m 59 #[.val (.int p0), .val (.long q1), .second, .val (.long q2), .second, .val (.long q3), .second, .val (.int v2_0), .val (.int v7_0), .val (.long r13), .second, .val (.long v16_0), .second, .unset, .unset] [(.int v2_0), (.int v2_0), (.ref b24), (.ref b24)])) (T24.setTop (mkF m 68 #[.val (.int p0), .val (.long q1), .second, .val (.long q2), .second, .val (.long q3), .second, .val (.int v2_0), .val (.int v7_0), .val (.long r13), .second, .val (.long v16_0), .second, .unset, .unset] [(.long v27_0), (.int v2_0), (.ref b24), (.ref b24)])) := by
    have R27 : Steps p.tables e below (T24.setTop (mkF m 59 #[.val (.int p0), .val (.long q1), .second, .val (.long q2), .second, .val (.long q3), .second, .val (.int v2_0), .val (.int v7_0), .val (.long r13), .second, .val (.long v16_0), .second, .unset, .unset] [(.int v2_0), (.int v2_0), (.ref b24), (.ref b24)])) (T24.setTop (mkF m 59 #[.val (.int p0), .val (.long q1), .second, .val (.long q2), .second, .val (.long q3), .second, .val (.int v2_0), .val (.int v7_0), .val (.long r13), .second, .val (.long v16_0), .second, .unset, .unset] [(.int v2_0), (.int v2_0), (.ref b24), (.ref b24)])) := Steps.refl _
    by_cases hc59 : v2_0 = (0 : Int32)
    · have K28 : Steps p.tables e below _ (T24.setTop (mkF m 68 #[.val (.int p0), .val (.long q1), .second, .val (.long q2), .second, .val (.long q3), .second, .val (.int v2_0), .val (.int v7_0), .val (.long r13), .second, .val (.long v16_0), .second, .unset, .unset] [(.long (0 : Int64)), (.int v2_0), (.ref b24), (.ref b24)])) := R27.trans (by
        show Steps p.tables e below (T24.setTop (mkF m 59 #[.val (.int p0), .val (.long q1), .second, .val (.long q2), .second, .val (.long q3), .second, .val (.int v2_0), .val (.int v7_0), .val (.long r13), .second, .val (.long v16_0), .second, .unset, .unset] [(.int v2_0), (.int v2_0), (.ref b24), (.ref b24)])) _
        refine XS.ifYes X24.here hx rfl (pc0 := 59) (pc' := 67) rfl (hb hby at_59) rfl ((if0 _ _).trans (teq hc59).1) (by decide) (by decide) ?_
        show Steps p.tables e below (T24.setTop (mkF m 67 #[.val (.int p0), .val (.long q1), .second, .val (.long q2), .second, .val (.long q3), .second, .val (.int v2_0), .val (.int v7_0), .val (.long r13), .second, .val (.long v16_0), .second, .unset, .unset] [(.int v2_0), (.ref b24), (.ref b24)])) _
        refine XS.lconst X24.here hx rfl (hb hby at_67) ?_
        show Steps p.tables e below (T24.setTop (mkF m 68 #[.val (.int p0), .val (.long q1), .second, .val (.long q2), .second, .val (.long q3), .second, .val (.int v2_0), .val (.int v7_0), .val (.long r13), .second, .val (.long v16_0), .second, .unset, .unset] [(.long (0 : Int64)), (.int v2_0), (.ref b24), (.ref b24)])) _
        exact Steps.refl _)
      exact ⟨(0 : Int64), (by rw [if_pos hc59]), K28⟩
    · have K29 : Steps p.tables e below _ (T24.setTop (mkF m 68 #[.val (.int p0), .val (.long q1), .second, .val (.long q2), .second, .val (.long q3), .second, .val (.int v2_0), .val (.int v7_0), .val (.long r13), .second, .val (.long v16_0), .second, .unset, .unset] [(.long r13), (.int v2_0), (.ref b24), (.ref b24)])) := R27.trans (by
        show Steps p.tables e below (T24.setTop (mkF m 59 #[.val (.int p0), .val (.long q1), .second, .val (.long q2), .second, .val (.long q3), .second, .val (.int v2_0), .val (.int v7_0), .val (.long r13), .second, .val (.long v16_0), .second, .unset, .unset] [(.int v2_0), (.int v2_0), (.ref b24), (.ref b24)])) _
        refine XS.ifNo X24.here hx rfl (hb hby at_59) rfl ((if0 _ _).trans (feq hc59).1) ?_
        show Steps p.tables e below (T24.setTop (mkF m 62 #[.val (.int p0), .val (.long q1), .second, .val (.long q2), .second, .val (.long q3), .second, .val (.int v2_0), .val (.int v7_0), .val (.long r13), .second, .val (.long v16_0), .second, .unset, .unset] [(.int v2_0), (.ref b24), (.ref b24)])) _
        refine XS.lload X24.here hx rfl (hb hby at_62) rfl ?_
        show Steps p.tables e below (T24.setTop (mkF m 64 #[.val (.int p0), .val (.long q1), .second, .val (.long q2), .second, .val (.long q3), .second, .val (.int v2_0), .val (.int v7_0), .val (.long r13), .second, .val (.long v16_0), .second, .unset, .unset] [(.long r13), (.int v2_0), (.ref b24), (.ref b24)])) _
        refine XS.goto X24.here hx rfl (pc0 := 64) (pc' := 68) rfl (hb hby at_64) (by decide) (by decide) ?_
        show Steps p.tables e below (T24.setTop (mkF m 68 #[.val (.int p0), .val (.long q1), .second, .val (.long q2), .second, .val (.long q3), .second, .val (.int v2_0), .val (.int v7_0), .val (.long r13), .second, .val (.long v16_0), .second, .unset, .unset] [(.long r13), (.int v2_0), (.ref b24), (.ref b24)])) _
        exact Steps.refl _)
      exact ⟨r13, (by rw [if_neg hc59]), K29⟩
  have K30 := K26.trans S27
  have K31 : Steps p.tables e below _ (T24.setTop (mkF m 72 #[.val (.int p0), .val (.long q1), .second, .val (.long q2), .second, .val (.long q3), .second, .val (.int v2_0), .val (.int v7_0), .val (.long r13), .second, .val (.long v16_0), .second, .unset, .unset] [(.int v7_0), (.int v7_0), (.long v27_0), (.int v2_0), (.ref b24), (.ref b24)])) := K30.trans (by
    show Steps p.tables e below (T24.setTop (mkF m 68 #[.val (.int p0), .val (.long q1), .second, .val (.long q2), .second, .val (.long q3), .second, .val (.int v2_0), .val (.int v7_0), .val (.long r13), .second, .val (.long v16_0), .second, .unset, .unset] [(.long v27_0), (.int v2_0), (.ref b24), (.ref b24)])) _
    refine XS.iload X24.here hx rfl (hb hby at_68) rfl ?_
    show Steps p.tables e below (T24.setTop (mkF m 70 #[.val (.int p0), .val (.long q1), .second, .val (.long q2), .second, .val (.long q3), .second, .val (.int v2_0), .val (.int v7_0), .val (.long r13), .second, .val (.long v16_0), .second, .unset, .unset] [(.int v7_0), (.long v27_0), (.int v2_0), (.ref b24), (.ref b24)])) _
    refine XS.iload X24.here hx rfl (hb hby at_70) rfl ?_
    show Steps p.tables e below (T24.setTop (mkF m 72 #[.val (.int p0), .val (.long q1), .second, .val (.long q2), .second, .val (.long q3), .second, .val (.int v2_0), .val (.int v7_0), .val (.long r13), .second, .val (.long v16_0), .second, .unset, .unset] [(.int v7_0), (.int v7_0), (.long v27_0), (.int v2_0), (.ref b24), (.ref b24)])) _
    exact Steps.refl _)
  obtain ⟨v32_0, hv32_0, S32⟩ : ∃ (v32_0 : Int64), (if v7_0 = (0 : Int32) then (0 : Int64) else v16_0) = v32_0 ∧ Steps p.tables e below (T24.setTop (mkF m 72 #[.val (.int p0), .val (.long q1), .second, .val (.long q2), .second, .val (.long q3), .second, .val (.int v2_0), .val (.int v7_0), .val (.long r13), .second, .val (.long v16_0), .second, .unset, .unset] [(.int v7_0), (.int v7_0), (.long v27_0), (.int v2_0), (.ref b24), (.ref b24)])) (T24.setTop (mkF m 81 #[.val (.int p0), .val (.long q1), .second, .val (.long q2), .second, .val (.long q3), .second, .val (.int v2_0), .val (.int v7_0), .val (.long r13), .second, .val (.long v16_0), .second, .unset, .unset] [(.long v32_0), (.int v7_0), (.long v27_0), (.int v2_0), (.ref b24), (.ref b24)])) := by
    have R32 : Steps p.tables e below (T24.setTop (mkF m 72 #[.val (.int p0), .val (.long q1), .second, .val (.long q2), .second, .val (.long q3), .second, .val (.int v2_0), .val (.int v7_0), .val (.long r13), .second, .val (.long v16_0), .second, .unset, .unset] [(.int v7_0), (.int v7_0), (.long v27_0), (.int v2_0), (.ref b24), (.ref b24)])) (T24.setTop (mkF m 72 #[.val (.int p0), .val (.long q1), .second, .val (.long q2), .second, .val (.long q3), .second, .val (.int v2_0), .val (.int v7_0), .val (.long r13), .second, .val (.long v16_0), .second, .unset, .unset] [(.int v7_0), (.int v7_0), (.long v27_0), (.int v2_0), (.ref b24), (.ref b24)])) := Steps.refl _
    by_cases hc72 : v7_0 = (0 : Int32)
    · have K33 : Steps p.tables e below _ (T24.setTop (mkF m 81 #[.val (.int p0), .val (.long q1), .second, .val (.long q2), .second, .val (.long q3), .second, .val (.int v2_0), .val (.int v7_0), .val (.long r13), .second, .val (.long v16_0), .second, .unset, .unset] [(.long (0 : Int64)), (.int v7_0), (.long v27_0), (.int v2_0), (.ref b24), (.ref b24)])) := R32.trans (by
        show Steps p.tables e below (T24.setTop (mkF m 72 #[.val (.int p0), .val (.long q1), .second, .val (.long q2), .second, .val (.long q3), .second, .val (.int v2_0), .val (.int v7_0), .val (.long r13), .second, .val (.long v16_0), .second, .unset, .unset] [(.int v7_0), (.int v7_0), (.long v27_0), (.int v2_0), (.ref b24), (.ref b24)])) _
        refine XS.ifYes X24.here hx rfl (pc0 := 72) (pc' := 80) rfl (hb hby at_72) rfl ((if0 _ _).trans (teq hc72).1) (by decide) (by decide) ?_
        show Steps p.tables e below (T24.setTop (mkF m 80 #[.val (.int p0), .val (.long q1), .second, .val (.long q2), .second, .val (.long q3), .second, .val (.int v2_0), .val (.int v7_0), .val (.long r13), .second, .val (.long v16_0), .second, .unset, .unset] [(.int v7_0), (.long v27_0), (.int v2_0), (.ref b24), (.ref b24)])) _
        refine XS.lconst X24.here hx rfl (hb hby at_80) ?_
        show Steps p.tables e below (T24.setTop (mkF m 81 #[.val (.int p0), .val (.long q1), .second, .val (.long q2), .second, .val (.long q3), .second, .val (.int v2_0), .val (.int v7_0), .val (.long r13), .second, .val (.long v16_0), .second, .unset, .unset] [(.long (0 : Int64)), (.int v7_0), (.long v27_0), (.int v2_0), (.ref b24), (.ref b24)])) _
        exact Steps.refl _)
      exact ⟨(0 : Int64), (by rw [if_pos hc72]), K33⟩
    · have K34 : Steps p.tables e below _ (T24.setTop (mkF m 81 #[.val (.int p0), .val (.long q1), .second, .val (.long q2), .second, .val (.long q3), .second, .val (.int v2_0), .val (.int v7_0), .val (.long r13), .second, .val (.long v16_0), .second, .unset, .unset] [(.long v16_0), (.int v7_0), (.long v27_0), (.int v2_0), (.ref b24), (.ref b24)])) := R32.trans (by
        show Steps p.tables e below (T24.setTop (mkF m 72 #[.val (.int p0), .val (.long q1), .second, .val (.long q2), .second, .val (.long q3), .second, .val (.int v2_0), .val (.int v7_0), .val (.long r13), .second, .val (.long v16_0), .second, .unset, .unset] [(.int v7_0), (.int v7_0), (.long v27_0), (.int v2_0), (.ref b24), (.ref b24)])) _
        refine XS.ifNo X24.here hx rfl (hb hby at_72) rfl ((if0 _ _).trans (feq hc72).1) ?_
        show Steps p.tables e below (T24.setTop (mkF m 75 #[.val (.int p0), .val (.long q1), .second, .val (.long q2), .second, .val (.long q3), .second, .val (.int v2_0), .val (.int v7_0), .val (.long r13), .second, .val (.long v16_0), .second, .unset, .unset] [(.int v7_0), (.long v27_0), (.int v2_0), (.ref b24), (.ref b24)])) _
        refine XS.lload X24.here hx rfl (hb hby at_75) rfl ?_
        show Steps p.tables e below (T24.setTop (mkF m 77 #[.val (.int p0), .val (.long q1), .second, .val (.long q2), .second, .val (.long q3), .second, .val (.int v2_0), .val (.int v7_0), .val (.long r13), .second, .val (.long v16_0), .second, .unset, .unset] [(.long v16_0), (.int v7_0), (.long v27_0), (.int v2_0), (.ref b24), (.ref b24)])) _
        refine XS.goto X24.here hx rfl (pc0 := 77) (pc' := 81) rfl (hb hby at_77) (by decide) (by decide) ?_
        show Steps p.tables e below (T24.setTop (mkF m 81 #[.val (.int p0), .val (.long q1), .second, .val (.long q2), .second, .val (.long q3), .second, .val (.int v2_0), .val (.int v7_0), .val (.long r13), .second, .val (.long v16_0), .second, .unset, .unset] [(.long v16_0), (.int v7_0), (.long v27_0), (.int v2_0), (.ref b24), (.ref b24)])) _
        exact Steps.refl _)
      exact ⟨v16_0, (by rw [if_neg hc72]), K34⟩
  have K35 := K31.trans S32
  have Z_36 : n0 ≤ h24.size := (Nat.le_trans Z0 E24.1)
  obtain ⟨_, _, ⟨T37, L37, k37, n37⟩, -, X37, ⟨Lc37, hQ37, l37, y37, z37⟩, st37⟩ := X24.specialBack hx (y := (⟨"com/example/spanfold/spanfold/Range", "<init>", "(ZJZJ)V"⟩ : MethodName)) rfl hown (mvT hZ (hw _ (List.mem_of_getElem? (i := 10) rfl))) (mvT hZ (hw _ (List.mem_of_getElem? (i := 11) rfl))) (mvT hZ (hw _ (List.mem_of_getElem? (i := 12) rfl))) (by decide) (backOf (W := 1) (rm3 l Z a0 hw [] b24 v2_0 v27_0 v7_0 v32_0 (.int (0 : Int32)) (.long (0 : Int64)) (.int (0 : Int32)) (.long (0 : Int64)) h24 n0 Z_36 ge_b24 A24 F24_hasFrom F24_from F24_hasTo F24_to) hZ (hw _ (List.mem_of_getElem? (i := 12) rfl)) (hw _ (List.mem_of_getElem? (i := 9) rfl)) (by decide) (by decide)) (g := (mkF m 81 #[.val (.int p0), .val (.long q1), .second, .val (.long q2), .second, .val (.long q3), .second, .val (.int v2_0), .val (.int v7_0), .val (.long r13), .second, .val (.long v16_0), .second, .unset, .unset] [(.long v32_0), (.int v7_0), (.long v27_0), (.int v2_0), (.ref b24), (.ref b24)])) rfl (by rw [hml]; rfl) K35 (a := b24) (argsL := [(.int v2_0), (.long v27_0), (.int v7_0), (.long v32_0)]) (rest := [(.ref b24)]) (lenOf pd_1 rfl) rfl (by show 2 * 0 + _ ≤ _; exact Nat.le_of_eq rfl) (hb hby at_81) (fun _ _ => ⟨rfl, e24, (by decide : 1 + 0 ≤ _), (by decide : 4 + 0 ≤ _)⟩)
  dsimp only [Pt.U, Pt.locs, Pt.cells, Pt.slots] at X37 l37 y37 z37 st37 hQ37
  subst l37 y37 z37
  obtain ⟨rfl, N37, Kp37, Q37_0, Q37_1, Q37_2, Q37_3, Q37_4⟩ := hQ37
  have N37' := Fr.app N16 N37
  have K38 : Steps p.tables e below _ (T37.setTop (mkF m 84 #[.val (.int p0), .val (.long q1), .second, .val (.long q2), .second, .val (.long q3), .second, .val (.int v2_0), .val (.int v7_0), .val (.long r13), .second, .val (.long v16_0), .second, .unset, .unset] [(.ref b24)])) := st37
  have K39 : Steps p.tables e below _ (T37.setTop (mkF m 88 #[.val (.int p0), .val (.long q1), .second, .val (.long q2), .second, .val (.long q3), .second, .val (.int v2_0), .val (.int v7_0), .val (.long r13), .second, .val (.long v16_0), .second, .val (.ref b24), .unset] [(.ref b24)])) := K38.trans (by
    show Steps p.tables e below (T37.setTop (mkF m 84 #[.val (.int p0), .val (.long q1), .second, .val (.long q2), .second, .val (.long q3), .second, .val (.int v2_0), .val (.int v7_0), .val (.long r13), .second, .val (.long v16_0), .second, .unset, .unset] [(.ref b24)])) _
    refine XS.astore X37.here hx rfl (hb hby at_84) rfl rfl (l' := #[.val (.int p0), .val (.long q1), .second, .val (.long q2), .second, .val (.long q3), .second, .val (.int v2_0), .val (.int v7_0), .val (.long r13), .second, .val (.long v16_0), .second, .val (.ref b24), .unset]) rfl ?_
    show Steps p.tables e below (T37.setTop (mkF m 86 #[.val (.int p0), .val (.long q1), .second, .val (.long q2), .second, .val (.long q3), .second, .val (.int v2_0), .val (.int v7_0), .val (.long r13), .second, .val (.long v16_0), .second, .val (.ref b24), .unset] [])) _
    refine XS.aload X37.here hx rfl (hb hby at_86) rfl rfl ?_
    show Steps p.tables e below (T37.setTop (mkF m 88 #[.val (.int p0), .val (.long q1), .second, .val (.long q2), .second, .val (.long q3), .second, .val (.int v2_0), .val (.int v7_0), .val (.long r13), .second, .val (.long v16_0), .second, .val (.ref b24), .unset] [(.ref b24)])) _
    exact Steps.refl _)
  have Z_40 : n0 ≤ T37.heap.size := (Nat.le_trans Z_36 Kp37.1)
  obtain ⟨cq41, kq41, q41a, q41b, q41c⟩ := isOf hZ rfl Q37_0
  obtain ⟨_, _, ⟨T41, L41, k41, n41⟩, -, X41, ⟨Lc41, hQ41, l41, y41, z41⟩, st41⟩ := X37.virtualBack hx (y := (⟨"com/example/spanfold/spanfold/Range", "isEmpty", "()Z"⟩ : MethodName)) (z := (⟨"com/example/spanfold/spanfold/Range", "isEmpty", "()Z"⟩ : MethodName)) hown (mvT hZ (hw _ (List.mem_of_getElem? (i := 24) rfl))) (mvT hZ (hw _ (List.mem_of_getElem? (i := 25) rfl))) (notFace_of_selects (args := #[]) (mvT hZ (hw _ (List.mem_of_getElem? (i := 27) rfl)))) (mvT hZ (hw _ (List.mem_of_getElem? (i := 27) rfl))) (mvT hZ (hw _ (List.mem_of_getElem? (i := 26) rfl))) (by decide) (backOf (W := 0) (rm5 l Z a0 hw [] b24 (v2_0 &&& 1) (v7_0 &&& 1) v27_0 v32_0 T37.heap n0 Z_40 Q37_1 Q37_3 Q37_2 Q37_4) hZ (hw _ (List.mem_of_getElem? (i := 28) rfl)) (hw _ (List.mem_of_getElem? (i := 9) rfl)) (by decide) (by decide)) q41a q41c (g := (mkF m 88 #[.val (.int p0), .val (.long q1), .second, .val (.long q2), .second, .val (.long q3), .second, .val (.int v2_0), .val (.int v7_0), .val (.long r13), .second, .val (.long v16_0), .second, .val (.ref b24), .unset] [(.ref b24)])) rfl (by rw [hml]; rfl) K39 (argsL := []) (rest := []) (lenOf pd_2 rfl) rfl (by show 2 * 0 + _ ≤ _; exact Nat.le_of_eq rfl) (hb hby at_88) (fun _ _ => ⟨rfl, rfl, (by decide : 1 + 0 ≤ _), (by decide : 4 + 0 ≤ _)⟩)
  dsimp only [Pt.U, Pt.locs, Pt.cells, Pt.slots] at X41 l41 y41 z41 st41 hQ41
  subst l41 y41 z41
  obtain ⟨rfl, N41, eh41⟩ := hQ41
  have N41' := Fr.app N37' N41
  have K43 : Steps p.tables e below _ (T41.setTop (mkF m 91 #[.val (.int p0), .val (.long q1), .second, .val (.long q2), .second, .val (.long q3), .second, .val (.int v2_0), .val (.int v7_0), .val (.long r13), .second, .val (.long v16_0), .second, .val (.ref b24), .unset] [(.int ((if (v2_0 &&& 1) = (0 : Int32) then (0 : Int32) else (if (v7_0 &&& 1) = (0 : Int32) then (0 : Int32) else (if v27_0 = v32_0 then (1 : Int32) else (0 : Int32)))) &&& 1))])) := st41
  obtain ⟨r42, hr42⟩ : ∃ z : Int32, ((if (v2_0 &&& 1) = (0 : Int32) then (0 : Int32) else (if (v7_0 &&& 1) = (0 : Int32) then (0 : Int32) else (if v27_0 = v32_0 then (1 : Int32) else (0 : Int32)))) &&& 1) = z := ⟨_, rfl⟩
  rw [hr42] at K43
  have K44 : Steps p.tables e below _ (T41.setTop (mkF m 95 #[.val (.int p0), .val (.long q1), .second, .val (.long q2), .second, .val (.long q3), .second, .val (.int v2_0), .val (.int v7_0), .val (.long r13), .second, .val (.long v16_0), .second, .val (.ref b24), .val (.int r42)] [(.int v2_0)])) := K43.trans (by
    show Steps p.tables e below (T41.setTop (mkF m 91 #[.val (.int p0), .val (.long q1), .second, .val (.long q2), .second, .val (.long q3), .second, .val (.int v2_0), .val (.int v7_0), .val (.long r13), .second, .val (.long v16_0), .second, .val (.ref b24), .unset] [(.int r42)])) _
    refine XS.istore X41.here hx rfl (hb hby at_91) rfl (l' := #[.val (.int p0), .val (.long q1), .second, .val (.long q2), .second, .val (.long q3), .second, .val (.int v2_0), .val (.int v7_0), .val (.long r13), .second, .val (.long v16_0), .second, .val (.ref b24), .val (.int r42)]) rfl ?_
    show Steps p.tables e below (T41.setTop (mkF m 93 #[.val (.int p0), .val (.long q1), .second, .val (.long q2), .second, .val (.long q3), .second, .val (.int v2_0), .val (.int v7_0), .val (.long r13), .second, .val (.long v16_0), .second, .val (.ref b24), .val (.int r42)] [])) _
    refine XS.iload X41.here hx rfl (hb hby at_93) rfl ?_
    show Steps p.tables e below (T41.setTop (mkF m 95 #[.val (.int p0), .val (.long q1), .second, .val (.long q2), .second, .val (.long q3), .second, .val (.int v2_0), .val (.int v7_0), .val (.long r13), .second, .val (.long v16_0), .second, .val (.ref b24), .val (.int r42)] [(.int v2_0)])) _
    exact Steps.refl _)
  by_cases hc95 : v2_0 = (0 : Int32)
  · have K45 : Steps p.tables e below _ (T41.setTop (mkF m 100 #[.val (.int p0), .val (.long q1), .second, .val (.long q2), .second, .val (.long q3), .second, .val (.int v2_0), .val (.int v7_0), .val (.long r13), .second, .val (.long v16_0), .second, .val (.ref b24), .val (.int r42)] [(.int v7_0)])) := K44.trans (by
      show Steps p.tables e below (T41.setTop (mkF m 95 #[.val (.int p0), .val (.long q1), .second, .val (.long q2), .second, .val (.long q3), .second, .val (.int v2_0), .val (.int v7_0), .val (.long r13), .second, .val (.long v16_0), .second, .val (.ref b24), .val (.int r42)] [(.int v2_0)])) _
      refine XS.ifNo X41.here hx rfl (hb hby at_95) rfl ((if0 _ _).trans (teq hc95).2) ?_
      show Steps p.tables e below (T41.setTop (mkF m 98 #[.val (.int p0), .val (.long q1), .second, .val (.long q2), .second, .val (.long q3), .second, .val (.int v2_0), .val (.int v7_0), .val (.long r13), .second, .val (.long v16_0), .second, .val (.ref b24), .val (.int r42)] [])) _
      refine XS.iload X41.here hx rfl (hb hby at_98) rfl ?_
      show Steps p.tables e below (T41.setTop (mkF m 100 #[.val (.int p0), .val (.long q1), .second, .val (.long q2), .second, .val (.long q3), .second, .val (.int v2_0), .val (.int v7_0), .val (.long r13), .second, .val (.long v16_0), .second, .val (.ref b24), .val (.int r42)] [(.int v7_0)])) _
      exact Steps.refl _)
    by_cases hc100 : v7_0 = (0 : Int32)
    · have K46 : Steps p.tables e below _ (T41.setTop (mkF m 125 #[.val (.int p0), .val (.long q1), .second, .val (.long q2), .second, .val (.long q3), .second, .val (.int v2_0), .val (.int v7_0), .val (.long r13), .second, .val (.long v16_0), .second, .val (.ref b24), .val (.int r42)] [(.int r42)])) := K45.trans (by
        show Steps p.tables e below (T41.setTop (mkF m 100 #[.val (.int p0), .val (.long q1), .second, .val (.long q2), .second, .val (.long q3), .second, .val (.int v2_0), .val (.int v7_0), .val (.long r13), .second, .val (.long v16_0), .second, .val (.ref b24), .val (.int r42)] [(.int v7_0)])) _
        refine XS.ifYes X41.here hx rfl (pc0 := 100) (pc' := 123) rfl (hb hby at_100) rfl ((if0 _ _).trans (teq hc100).1) (by decide) (by decide) ?_
        show Steps p.tables e below (T41.setTop (mkF m 123 #[.val (.int p0), .val (.long q1), .second, .val (.long q2), .second, .val (.long q3), .second, .val (.int v2_0), .val (.int v7_0), .val (.long r13), .second, .val (.long v16_0), .second, .val (.ref b24), .val (.int r42)] [])) _
        refine XS.iload X41.here hx rfl (hb hby at_123) rfl ?_
        show Steps p.tables e below (T41.setTop (mkF m 125 #[.val (.int p0), .val (.long q1), .second, .val (.long q2), .second, .val (.long q3), .second, .val (.int v2_0), .val (.int v7_0), .val (.long r13), .second, .val (.long v16_0), .second, .val (.ref b24), .val (.int r42)] [(.int r42)])) _
        exact Steps.refl _)
      by_cases hc125 : r42 = (0 : Int32)
      · have K47 : Steps p.tables e below _ (T41.setTop (mkF m 199 #[.val (.int p0), .val (.long q1), .second, .val (.long q2), .second, .val (.long q3), .second, .val (.int v2_0), .val (.int v7_0), .val (.long r13), .second, .val (.long v16_0), .second, .val (.ref b24), .val (.int r42)] [(.long (0 : Int64)), (.long v16_0), (.int v7_0), (.long r13), (.int v2_0)])) := K46.trans (by
          show Steps p.tables e below (T41.setTop (mkF m 125 #[.val (.int p0), .val (.long q1), .second, .val (.long q2), .second, .val (.long q3), .second, .val (.int v2_0), .val (.int v7_0), .val (.long r13), .second, .val (.long v16_0), .second, .val (.ref b24), .val (.int r42)] [(.int r42)])) _
          refine XS.ifYes X41.here hx rfl (pc0 := 125) (pc' := 150) rfl (hb hby at_125) rfl ((if0 _ _).trans (teq hc125).1) (by decide) (by decide) ?_
          show Steps p.tables e below (T41.setTop (mkF m 150 #[.val (.int p0), .val (.long q1), .second, .val (.long q2), .second, .val (.long q3), .second, .val (.int v2_0), .val (.int v7_0), .val (.long r13), .second, .val (.long v16_0), .second, .val (.ref b24), .val (.int r42)] [])) _
          refine XS.iload X41.here hx rfl (hb hby at_150) rfl ?_
          show Steps p.tables e below (T41.setTop (mkF m 152 #[.val (.int p0), .val (.long q1), .second, .val (.long q2), .second, .val (.long q3), .second, .val (.int v2_0), .val (.int v7_0), .val (.long r13), .second, .val (.long v16_0), .second, .val (.ref b24), .val (.int r42)] [(.int v2_0)])) _
          refine XS.ifYes X41.here hx rfl (pc0 := 152) (pc' := 169) rfl (hb hby at_152) rfl ((if0 _ _).trans (teq hc95).1) (by decide) (by decide) ?_
          show Steps p.tables e below (T41.setTop (mkF m 169 #[.val (.int p0), .val (.long q1), .second, .val (.long q2), .second, .val (.long q3), .second, .val (.int v2_0), .val (.int v7_0), .val (.long r13), .second, .val (.long v16_0), .second, .val (.ref b24), .val (.int r42)] [])) _
          refine XS.iload X41.here hx rfl (hb hby at_169) rfl ?_
          show Steps p.tables e below (T41.setTop (mkF m 171 #[.val (.int p0), .val (.long q1), .second, .val (.long q2), .second, .val (.long q3), .second, .val (.int v2_0), .val (.int v7_0), .val (.long r13), .second, .val (.long v16_0), .second, .val (.ref b24), .val (.int r42)] [(.int v7_0)])) _
          refine XS.ifYes X41.here hx rfl (pc0 := 171) (pc' := 190) rfl (hb hby at_171) rfl ((if0 _ _).trans (teq hc100).1) (by decide) (by decide) ?_
          show Steps p.tables e below (T41.setTop (mkF m 190 #[.val (.int p0), .val (.long q1), .second, .val (.long q2), .second, .val (.long q3), .second, .val (.int v2_0), .val (.int v7_0), .val (.long r13), .second, .val (.long v16_0), .second, .val (.ref b24), .val (.int r42)] [])) _
          refine XS.iload X41.here hx rfl (hb hby at_190) rfl ?_
          show Steps p.tables e below (T41.setTop (mkF m 192 #[.val (.int p0), .val (.long q1), .second, .val (.long q2), .second, .val (.long q3), .second, .val (.int v2_0), .val (.int v7_0), .val (.long r13), .second, .val (.long v16_0), .second, .val (.ref b24), .val (.int r42)] [(.int v2_0)])) _
          refine XS.lload X41.here hx rfl (hb hby at_192) rfl ?_
          show Steps p.tables e below (T41.setTop (mkF m 194 #[.val (.int p0), .val (.long q1), .second, .val (.long q2), .second, .val (.long q3), .second, .val (.int v2_0), .val (.int v7_0), .val (.long r13), .second, .val (.long v16_0), .second, .val (.ref b24), .val (.int r42)] [(.long r13), (.int v2_0)])) _
          refine XS.iload X41.here hx rfl (hb hby at_194) rfl ?_
          show Steps p.tables e below (T41.setTop (mkF m 196 #[.val (.int p0), .val (.long q1), .second, .val (.long q2), .second, .val (.long q3), .second, .val (.int v2_0), .val (.int v7_0), .val (.long r13), .second, .val (.long v16_0), .second, .val (.ref b24), .val (.int r42)] [(.int v7_0), (.long r13), (.int v2_0)])) _
          refine XS.lload X41.here hx rfl (hb hby at_196) rfl ?_
          show Steps p.tables e below (T41.setTop (mkF m 198 #[.val (.int p0), .val (.long q1), .second, .val (.long q2), .second, .val (.long q3), .second, .val (.int v2_0), .val (.int v7_0), .val (.long r13), .second, .val (.long v16_0), .second, .val (.ref b24), .val (.int r42)] [(.long v16_0), (.int v7_0), (.long r13), (.int v2_0)])) _
          refine XS.lconst X41.here hx rfl (hb hby at_198) ?_
          show Steps p.tables e below (T41.setTop (mkF m 199 #[.val (.int p0), .val (.long q1), .second, .val (.long q2), .second, .val (.long q3), .second, .val (.int v2_0), .val (.int v7_0), .val (.long r13), .second, .val (.long v16_0), .second, .val (.ref b24), .val (.int r42)] [(.long (0 : Int64)), (.long v16_0), (.int v7_0), (.long r13), (.int v2_0)])) _
          exact Steps.refl _)
        obtain ⟨_, _, ⟨T48, L48, k48, n48⟩, -, X48, ⟨Lc48, hQ48, l48, y48, z48⟩, st48⟩ := Jvm.LawKit.callS X41 hx (y := (⟨"com/example/spanfold/spanfold/RangeIsEmptyPinLaw", "holds", "(ZJZJJ)Z"⟩ : MethodName)) hown (mvT hZ (hw _ (List.mem_of_getElem? (i := 29) rfl))) (mvT hZ (hw _ (List.mem_of_getElem? (i := 30) rfl))) (mvT hZ (hw _ (List.mem_of_getElem? (i := 31) rfl))) (mvT hZ (hw _ (List.mem_of_getElem? (i := 32) rfl))) (by decide) (backOf (W := 0) (rm6 l Z a0 hw [] v2_0 r13 v7_0 v16_0 (0 : Int64) T37.heap n0 Z_40 ) hZ (hw _ (List.mem_of_getElem? (i := 32) rfl)) (hw _ (List.mem_of_getElem? (i := 31) rfl)) (by decide) (by decide)) (g := (mkF m 199 #[.val (.int p0), .val (.long q1), .second, .val (.long q2), .second, .val (.long q3), .second, .val (.int v2_0), .val (.int v7_0), .val (.long r13), .second, .val (.long v16_0), .second, .val (.ref b24), .val (.int r42)] [(.long (0 : Int64)), (.long v16_0), (.int v7_0), (.long r13), (.int v2_0)])) rfl (by rw [hml]; rfl) (argsL := [(.int v2_0), (.long r13), (.int v7_0), (.long v16_0), (.long (0 : Int64))]) (rest := []) (lenOf pd_3 rfl) rfl (by show 2 * 0 + _ ≤ _; exact Nat.le_of_eq rfl) (hb hby at_199) (fun _ _ => ⟨rfl, eh41, (by decide : 1 + 0 ≤ _), (by decide : 4 + 0 ≤ _)⟩)
        dsimp only [Pt.U, Pt.locs, Pt.cells, Pt.slots] at X48 l48 y48 z48 st48 hQ48
        subst l48 y48 z48
        obtain ⟨rfl, N48, eh48⟩ := hQ48
        have N48' := Fr.app N41' N48
        have K50 : Steps p.tables e below _ (T48.setTop (mkF m 202 #[.val (.int p0), .val (.long q1), .second, .val (.long q2), .second, .val (.long q3), .second, .val (.int v2_0), .val (.int v7_0), .val (.long r13), .second, .val (.long v16_0), .second, .val (.ref b24), .val (.int r42)] [(.int ((if v2_0 = (0 : Int32) then (if v7_0 = (0 : Int32) then (1 : Int32) else (if (0 : Int64) < v16_0 then (1 : Int32) else (0 : Int32))) else (if (0 : Int64) < r13 then (0 : Int32) else (if v7_0 = (0 : Int32) then (1 : Int32) else (if (0 : Int64) < v16_0 then (1 : Int32) else (0 : Int32))))) &&& 1))])) := K47.trans (st48 _ (Steps.refl _))
        obtain ⟨r49, hr49⟩ : ∃ z : Int32, ((if v2_0 = (0 : Int32) then (if v7_0 = (0 : Int32) then (1 : Int32) else (if (0 : Int64) < v16_0 then (1 : Int32) else (0 : Int32))) else (if (0 : Int64) < r13 then (0 : Int32) else (if v7_0 = (0 : Int32) then (1 : Int32) else (if (0 : Int64) < v16_0 then (1 : Int32) else (0 : Int32))))) &&& 1) = z := ⟨_, rfl⟩
        rw [hr49] at K50
        have hone : (r49 &&& 1) = (1 : Int32) := own_law_0 p0 q1 q2 q3 v2_0 v7_0 r13 v16_0 v27_0 v32_0 r42 r49 hv2_0 hv7_0 hr13 hv16_0 hv27_0 hv32_0 hr42 hr49 hc95 hc100 hc125
        obtain ⟨fs, hr, hrun, hended, hW, hsame⟩ := X48.leave (v := some (.int (r49 &&& 1))) (fun h => by rw [Bd.returns] at h; cases h)
        exact ⟨_, _, K50.trans (retN X48 hx (t := .boolean) Bd.returns (by simp) (hb hby at_202) hr), hrun, hended, _, _, rfl, ⟨by rw [hone], N48'⟩, ⟨_, rfl⟩, hW, hsame.mono (by decide) (by decide)⟩
      · have K51 : Steps p.tables e below _ (T41.setTop (mkF m 138 #[.val (.int p0), .val (.long q1), .second, .val (.long q2), .second, .val (.long q3), .second, .val (.int v2_0), .val (.int v7_0), .val (.long r13), .second, .val (.long v16_0), .second, .val (.ref b24), .val (.int r42)] [(.long q3), (.long v16_0), (.int v7_0), (.long r13), (.int v2_0)])) := K46.trans (by
          show Steps p.tables e below (T41.setTop (mkF m 125 #[.val (.int p0), .val (.long q1), .second, .val (.long q2), .second, .val (.long q3), .second, .val (.int v2_0), .val (.int v7_0), .val (.long r13), .second, .val (.long v16_0), .second, .val (.ref b24), .val (.int r42)] [(.int r42)])) _
          refine XS.ifNo X41.here hx rfl (hb hby at_125) rfl ((if0 _ _).trans (feq hc125).1) ?_
          show Steps p.tables e below (T41.setTop (mkF m 128 #[.val (.int p0), .val (.long q1), .second, .val (.long q2), .second, .val (.long q3), .second, .val (.int v2_0), .val (.int v7_0), .val (.long r13), .second, .val (.long v16_0), .second, .val (.ref b24), .val (.int r42)] [])) _
          refine XS.iload X41.here hx rfl (hb hby at_128) rfl ?_
          show Steps p.tables e below (T41.setTop (mkF m 130 #[.val (.int p0), .val (.long q1), .second, .val (.long q2), .second, .val (.long q3), .second, .val (.int v2_0), .val (.int v7_0), .val (.long r13), .second, .val (.long v16_0), .second, .val (.ref b24), .val (.int r42)] [(.int v2_0)])) _
          refine XS.lload X41.here hx rfl (hb hby at_130) rfl ?_
          show Steps p.tables e below (T41.setTop (mkF m 132 #[.val (.int p0), .val (.long q1), .second, .val (.long q2), .second, .val (.long q3), .second, .val (.int v2_0), .val (.int v7_0), .val (.long r13), .second, .val (.long v16_0), .second, .val (.ref b24), .val (.int r42)] [(.long r13), (.int v2_0)])) _
          refine XS.iload X41.here hx rfl (hb hby at_132) rfl ?_
          show Steps p.tables e below (T41.setTop (mkF m 134 #[.val (.int p0), .val (.long q1), .second, .val (.long q2), .second, .val (.long q3), .second, .val (.int v2_0), .val (.int v7_0), .val (.long r13), .second, .val (.long v16_0), .second, .val (.ref b24), .val (.int r42)] [(.int v7_0), (.long r13), (.int v2_0)])) _
          refine XS.lload X41.here hx rfl (hb hby at_134) rfl ?_
          show Steps p.tables e below (T41.setTop (mkF m 136 #[.val (.int p0), .val (.long q1), .second, .val (.long q2), .second, .val (.long q3), .second, .val (.int v2_0), .val (.int v7_0), .val (.long r13), .second, .val (.long v16_0), .second, .val (.ref b24), .val (.int r42)] [(.long v16_0), (.int v7_0), (.long r13), (.int v2_0)])) _
          refine XS.lload X41.here hx rfl (hb hby at_136) rfl ?_
          show Steps p.tables e below (T41.setTop (mkF m 138 #[.val (.int p0), .val (.long q1), .second, .val (.long q2), .second, .val (.long q3), .second, .val (.int v2_0), .val (.int v7_0), .val (.long r13), .second, .val (.long v16_0), .second, .val (.ref b24), .val (.int r42)] [(.long q3), (.long v16_0), (.int v7_0), (.long r13), (.int v2_0)])) _
          exact Steps.refl _)
        obtain ⟨_, _, ⟨T52, L52, k52, n52⟩, -, X52, ⟨Lc52, hQ52, l52, y52, z52⟩, st52⟩ := Jvm.LawKit.callS X41 hx (y := (⟨"com/example/spanfold/spanfold/RangeIsEmptyPinLaw", "holds", "(ZJZJJ)Z"⟩ : MethodName)) hown (mvT hZ (hw _ (List.mem_of_getElem? (i := 29) rfl))) (mvT hZ (hw _ (List.mem_of_getElem? (i := 30) rfl))) (mvT hZ (hw _ (List.mem_of_getElem? (i := 31) rfl))) (mvT hZ (hw _ (List.mem_of_getElem? (i := 32) rfl))) (by decide) (backOf (W := 0) (rm6 l Z a0 hw [] v2_0 r13 v7_0 v16_0 q3 T37.heap n0 Z_40 ) hZ (hw _ (List.mem_of_getElem? (i := 32) rfl)) (hw _ (List.mem_of_getElem? (i := 31) rfl)) (by decide) (by decide)) (g := (mkF m 138 #[.val (.int p0), .val (.long q1), .second, .val (.long q2), .second, .val (.long q3), .second, .val (.int v2_0), .val (.int v7_0), .val (.long r13), .second, .val (.long v16_0), .second, .val (.ref b24), .val (.int r42)] [(.long q3), (.long v16_0), (.int v7_0), (.long r13), (.int v2_0)])) rfl (by rw [hml]; rfl) (argsL := [(.int v2_0), (.long r13), (.int v7_0), (.long v16_0), (.long q3)]) (rest := []) (lenOf pd_3 rfl) rfl (by show 2 * 0 + _ ≤ _; exact Nat.le_of_eq rfl) (hb hby at_138) (fun _ _ => ⟨rfl, eh41, (by decide : 1 + 0 ≤ _), (by decide : 4 + 0 ≤ _)⟩)
        dsimp only [Pt.U, Pt.locs, Pt.cells, Pt.slots] at X52 l52 y52 z52 st52 hQ52
        subst l52 y52 z52
        obtain ⟨rfl, N52, eh52⟩ := hQ52
        have N52' := Fr.app N41' N52
        have K54 : Steps p.tables e below _ (T52.setTop (mkF m 141 #[.val (.int p0), .val (.long q1), .second, .val (.long q2), .second, .val (.long q3), .second, .val (.int v2_0), .val (.int v7_0), .val (.long r13), .second, .val (.long v16_0), .second, .val (.ref b24), .val (.int r42)] [(.int ((if v2_0 = (0 : Int32) then (if v7_0 = (0 : Int32) then (1 : Int32) else (if q3 < v16_0 then (1 : Int32) else (0 : Int32))) else (if q3 < r13 then (0 : Int32) else (if v7_0 = (0 : Int32) then (1 : Int32) else (if q3 < v16_0 then (1 : Int32) else (0 : Int32))))) &&& 1))])) := K51.trans (st52 _ (Steps.refl _))
        obtain ⟨r53, hr53⟩ : ∃ z : Int32, ((if v2_0 = (0 : Int32) then (if v7_0 = (0 : Int32) then (1 : Int32) else (if q3 < v16_0 then (1 : Int32) else (0 : Int32))) else (if q3 < r13 then (0 : Int32) else (if v7_0 = (0 : Int32) then (1 : Int32) else (if q3 < v16_0 then (1 : Int32) else (0 : Int32))))) &&& 1) = z := ⟨_, rfl⟩
        rw [hr53] at K54
        obtain ⟨v55_0, hv55_0, S55⟩ : ∃ (v55_0 : Int32), (if r53 = (0 : Int32) then (1 : Int32) else (0 : Int32)) = v55_0 ∧ Steps p.tables e below (T52.setTop (mkF m 141 #[.val (.int p0), .val (.long q1), .second, .val (.long q2), .second, .val (.long q3), .second, .val (.int v2_0), .val (.int v7_0), .val (.long r13), .second, .val (.long v16_0), .second, .val (.ref b24), .val (.int r42)] [(.int r53)])) (T52.setTop (mkF m 149 #[.val (.int p0), .val (.long q1), .second, .val (.long q2), .second, .val (.long q3), .second, .val (.int v2_0), .val (.int v7_0), .val (.long r13), .second, .val (.long v16_0), .second, .val (.ref b24), .val (.int r42)] [(.int v55_0)])) := by
          have R55 : Steps p.tables e below (T52.setTop (mkF m 141 #[.val (.int p0), .val (.long q1), .second, .val (.long q2), .second, .val (.long q3), .second, .val (.int v2_0), .val (.int v7_0), .val (.long r13), .second, .val (.long v16_0), .second, .val (.ref b24), .val (.int r42)] [(.int r53)])) (T52.setTop (mkF m 141 #[.val (.int p0), .val (.long q1), .second, .val (.long q2), .second, .val (.long q3), .second, .val (.int v2_0), .val (.int v7_0), .val (.long r13), .second, .val (.long v16_0), .second, .val (.ref b24), .val (.int r42)] [(.int r53)])) := Steps.refl _
          by_cases hc141 : r53 = (0 : Int32)
          · have K56 : Steps p.tables e below _ (T52.setTop (mkF m 149 #[.val (.int p0), .val (.long q1), .second, .val (.long q2), .second, .val (.long q3), .second, .val (.int v2_0), .val (.int v7_0), .val (.long r13), .second, .val (.long v16_0), .second, .val (.ref b24), .val (.int r42)] [(.int (1 : Int32))])) := R55.trans (by
              show Steps p.tables e below (T52.setTop (mkF m 141 #[.val (.int p0), .val (.long q1), .second, .val (.long q2), .second, .val (.long q3), .second, .val (.int v2_0), .val (.int v7_0), .val (.long r13), .second, .val (.long v16_0), .second, .val (.ref b24), .val (.int r42)] [(.int r53)])) _
              refine XS.ifNo X52.here hx rfl (hb hby at_141) rfl ((if0 _ _).trans (teq hc141).2) ?_
              show Steps p.tables e below (T52.setTop (mkF m 144 #[.val (.int p0), .val (.long q1), .second, .val (.long q2), .second, .val (.long q3), .second, .val (.int v2_0), .val (.int v7_0), .val (.long r13), .second, .val (.long v16_0), .second, .val (.ref b24), .val (.int r42)] [])) _
              refine XS.iconst X52.here hx rfl (hb hby at_144) ?_
              show Steps p.tables e below (T52.setTop (mkF m 145 #[.val (.int p0), .val (.long q1), .second, .val (.long q2), .second, .val (.long q3), .second, .val (.int v2_0), .val (.int v7_0), .val (.long r13), .second, .val (.long v16_0), .second, .val (.ref b24), .val (.int r42)] [(.int (1 : Int32))])) _
              refine XS.goto X52.here hx rfl (pc0 := 145) (pc' := 149) rfl (hb hby at_145) (by decide) (by decide) ?_
              show Steps p.tables e below (T52.setTop (mkF m 149 #[.val (.int p0), .val (.long q1), .second, .val (.long q2), .second, .val (.long q3), .second, .val (.int v2_0), .val (.int v7_0), .val (.long r13), .second, .val (.long v16_0), .second, .val (.ref b24), .val (.int r42)] [(.int (1 : Int32))])) _
              exact Steps.refl _)
            exact ⟨(1 : Int32), (by rw [if_pos hc141]), K56⟩
          · have K57 : Steps p.tables e below _ (T52.setTop (mkF m 149 #[.val (.int p0), .val (.long q1), .second, .val (.long q2), .second, .val (.long q3), .second, .val (.int v2_0), .val (.int v7_0), .val (.long r13), .second, .val (.long v16_0), .second, .val (.ref b24), .val (.int r42)] [(.int (0 : Int32))])) := R55.trans (by
              show Steps p.tables e below (T52.setTop (mkF m 141 #[.val (.int p0), .val (.long q1), .second, .val (.long q2), .second, .val (.long q3), .second, .val (.int v2_0), .val (.int v7_0), .val (.long r13), .second, .val (.long v16_0), .second, .val (.ref b24), .val (.int r42)] [(.int r53)])) _
              refine XS.ifYes X52.here hx rfl (pc0 := 141) (pc' := 148) rfl (hb hby at_141) rfl ((if0 _ _).trans (feq hc141).2) (by decide) (by decide) ?_
              show Steps p.tables e below (T52.setTop (mkF m 148 #[.val (.int p0), .val (.long q1), .second, .val (.long q2), .second, .val (.long q3), .second, .val (.int v2_0), .val (.int v7_0), .val (.long r13), .second, .val (.long v16_0), .second, .val (.ref b24), .val (.int r42)] [])) _
              refine XS.iconst X52.here hx rfl (hb hby at_148) ?_
              show Steps p.tables e below (T52.setTop (mkF m 149 #[.val (.int p0), .val (.long q1), .second, .val (.long q2), .second, .val (.long q3), .second, .val (.int v2_0), .val (.int v7_0), .val (.long r13), .second, .val (.long v16_0), .second, .val (.ref b24), .val (.int r42)] [(.int (0 : Int32))])) _
              exact Steps.refl _)
            exact ⟨(0 : Int32), (by rw [if_neg hc141]), K57⟩
        have K58 := K54.trans S55
        have hone : (v55_0 &&& 1) = (1 : Int32) := own_law_1 p0 q1 q2 q3 v2_0 v7_0 r13 v16_0 v27_0 v32_0 r42 r53 v55_0 hv2_0 hv7_0 hr13 hv16_0 hv27_0 hv32_0 hr42 hr53 hv55_0 hc95 hc100 hc125
        obtain ⟨fs, hr, hrun, hended, hW, hsame⟩ := X52.leave (v := some (.int (v55_0 &&& 1))) (fun h => by rw [Bd.returns] at h; cases h)
        exact ⟨_, _, K58.trans (retN X52 hx (t := .boolean) Bd.returns (by simp) (hb hby at_149) hr), hrun, hended, _, _, rfl, ⟨by rw [hone], N52'⟩, ⟨_, rfl⟩, hW, hsame.mono (by decide) (by decide)⟩
    · have K59 : Steps p.tables e below _ (T41.setTop (mkF m 109 #[.val (.int p0), .val (.long q1), .second, .val (.long q2), .second, .val (.long q3), .second, .val (.int v2_0), .val (.int v7_0), .val (.long r13), .second, .val (.long v16_0), .second, .val (.ref b24), .val (.int r42)] [(.int (lcmpW v16_0 (-9223372036854775808 : Int64)))])) := K45.trans (by
        show Steps p.tables e below (T41.setTop (mkF m 100 #[.val (.int p0), .val (.long q1), .second, .val (.long q2), .second, .val (.long q3), .second, .val (.int v2_0), .val (.int v7_0), .val (.long r13), .second, .val (.long v16_0), .second, .val (.ref b24), .val (.int r42)] [(.int v7_0)])) _
        refine XS.ifNo X41.here hx rfl (hb hby at_100) rfl ((if0 _ _).trans (feq hc100).1) ?_
        show Steps p.tables e below (T41.setTop (mkF m 103 #[.val (.int p0), .val (.long q1), .second, .val (.long q2), .second, .val (.long q3), .second, .val (.int v2_0), .val (.int v7_0), .val (.long r13), .second, .val (.long v16_0), .second, .val (.ref b24), .val (.int r42)] [])) _
        refine XS.lload X41.here hx rfl (hb hby at_103) rfl ?_
        show Steps p.tables e below (T41.setTop (mkF m 105 #[.val (.int p0), .val (.long q1), .second, .val (.long q2), .second, .val (.long q3), .second, .val (.int v2_0), .val (.int v7_0), .val (.long r13), .second, .val (.long v16_0), .second, .val (.ref b24), .val (.int r42)] [(.long v16_0)])) _
        refine X41.ldc2Long hx hown (mvT hZ (hw _ (List.mem_of_getElem? (i := 33) rfl))) (g := (mkF m 105 #[.val (.int p0), .val (.long q1), .second, .val (.long q2), .second, .val (.long q3), .second, .val (.int v2_0), .val (.int v7_0), .val (.long r13), .second, .val (.long v16_0), .second, .val (.ref b24), .val (.int r42)] [(.long v16_0)])) rfl (hb hby at_105) _ ?_
        show Steps p.tables e below (T41.setTop (mkF m 108 #[.val (.int p0), .val (.long q1), .second, .val (.long q2), .second, .val (.long q3), .second, .val (.int v2_0), .val (.int v7_0), .val (.long r13), .second, .val (.long v16_0), .second, .val (.ref b24), .val (.int r42)] [(.long (-9223372036854775808 : Int64)), (.long v16_0)])) _
        refine XS.lcmp X41.here hx rfl (hb hby at_108) rfl ?_
        show Steps p.tables e below (T41.setTop (mkF m 109 #[.val (.int p0), .val (.long q1), .second, .val (.long q2), .second, .val (.long q3), .second, .val (.int v2_0), .val (.int v7_0), .val (.long r13), .second, .val (.long v16_0), .second, .val (.ref b24), .val (.int r42)] [(.int (lcmpW v16_0 (-9223372036854775808 : Int64)))])) _
        exact Steps.refl _)
      by_cases hc109 : v16_0 = (-9223372036854775808 : Int64)
      · have K60 : Steps p.tables e below _ (T41.setTop (mkF m 114 #[.val (.int p0), .val (.long q1), .second, .val (.long q2), .second, .val (.long q3), .second, .val (.int v2_0), .val (.int v7_0), .val (.long r13), .second, .val (.long v16_0), .second, .val (.ref b24), .val (.int r42)] [(.int r42)])) := K59.trans (by
          show Steps p.tables e below (T41.setTop (mkF m 109 #[.val (.int p0), .val (.long q1), .second, .val (.long q2), .second, .val (.long q3), .second, .val (.int v2_0), .val (.int v7_0), .val (.long r13), .second, .val (.long v16_0), .second, .val (.ref b24), .val (.int r42)] [(.int (lcmpW v16_0 (-9223372036854775808 : Int64)))])) _
          refine XS.ifNo X41.here hx rfl (hb hby at_109) rfl ((if0 _ _).trans (teq ((lw_eq v16_0 (-9223372036854775808 : Int64)).mpr hc109)).2) ?_
          show Steps p.tables e below (T41.setTop (mkF m 112 #[.val (.int p0), .val (.long q1), .second, .val (.long q2), .second, .val (.long q3), .second, .val (.int v2_0), .val (.int v7_0), .val (.long r13), .second, .val (.long v16_0), .second, .val (.ref b24), .val (.int r42)] [])) _
          refine XS.iload X41.here hx rfl (hb hby at_112) rfl ?_
          show Steps p.tables e below (T41.setTop (mkF m 114 #[.val (.int p0), .val (.long q1), .second, .val (.long q2), .second, .val (.long q3), .second, .val (.int v2_0), .val (.int v7_0), .val (.long r13), .second, .val (.long v16_0), .second, .val (.ref b24), .val (.int r42)] [(.int r42)])) _
          exact Steps.refl _)
        obtain ⟨v61_0, hv61_0, S61⟩ : ∃ (v61_0 : Int32), (if r42 = (0 : Int32) then (1 : Int32) else (0 : Int32)) = v61_0 ∧ Steps p.tables e below (T41.setTop (mkF m 114 #[.val (.int p0), .val (.long q1), .second, .val (.long q2), .second, .val (.long q3), .second, .val (.int v2_0), .val (.int v7_0), .val (.long r13), .second, .val (.long v16_0), .second, .val (.ref b24), .val (.int r42)] [(.int r42)])) (T41.setTop (mkF m 122 #[.val (.int p0), .val (.long q1), .second, .val (.long q2), .second, .val (.long q3), .second, .val (.int v2_0), .val (.int v7_0), .val (.long r13), .second, .val (.long v16_0), .second, .val (.ref b24), .val (.int r42)] [(.int v61_0)])) := by
          have R61 : Steps p.tables e below (T41.setTop (mkF m 114 #[.val (.int p0), .val (.long q1), .second, .val (.long q2), .second, .val (.long q3), .second, .val (.int v2_0), .val (.int v7_0), .val (.long r13), .second, .val (.long v16_0), .second, .val (.ref b24), .val (.int r42)] [(.int r42)])) (T41.setTop (mkF m 114 #[.val (.int p0), .val (.long q1), .second, .val (.long q2), .second, .val (.long q3), .second, .val (.int v2_0), .val (.int v7_0), .val (.long r13), .second, .val (.long v16_0), .second, .val (.ref b24), .val (.int r42)] [(.int r42)])) := Steps.refl _
          by_cases hc114 : r42 = (0 : Int32)
          · have K62 : Steps p.tables e below _ (T41.setTop (mkF m 122 #[.val (.int p0), .val (.long q1), .second, .val (.long q2), .second, .val (.long q3), .second, .val (.int v2_0), .val (.int v7_0), .val (.long r13), .second, .val (.long v16_0), .second, .val (.ref b24), .val (.int r42)] [(.int (1 : Int32))])) := R61.trans (by
              show Steps p.tables e below (T41.setTop (mkF m 114 #[.val (.int p0), .val (.long q1), .second, .val (.long q2), .second, .val (.long q3), .second, .val (.int v2_0), .val (.int v7_0), .val (.long r13), .second, .val (.long v16_0), .second, .val (.ref b24), .val (.int r42)] [(.int r42)])) _
              refine XS.ifNo X41.here hx rfl (hb hby at_114) rfl ((if0 _ _).trans (teq hc114).2) ?_
              show Steps p.tables e below (T41.setTop (mkF m 117 #[.val (.int p0), .val (.long q1), .second, .val (.long q2), .second, .val (.long q3), .second, .val (.int v2_0), .val (.int v7_0), .val (.long r13), .second, .val (.long v16_0), .second, .val (.ref b24), .val (.int r42)] [])) _
              refine XS.iconst X41.here hx rfl (hb hby at_117) ?_
              show Steps p.tables e below (T41.setTop (mkF m 118 #[.val (.int p0), .val (.long q1), .second, .val (.long q2), .second, .val (.long q3), .second, .val (.int v2_0), .val (.int v7_0), .val (.long r13), .second, .val (.long v16_0), .second, .val (.ref b24), .val (.int r42)] [(.int (1 : Int32))])) _
              refine XS.goto X41.here hx rfl (pc0 := 118) (pc' := 122) rfl (hb hby at_118) (by decide) (by decide) ?_
              show Steps p.tables e below (T41.setTop (mkF m 122 #[.val (.int p0), .val (.long q1), .second, .val (.long q2), .second, .val (.long q3), .second, .val (.int v2_0), .val (.int v7_0), .val (.long r13), .second, .val (.long v16_0), .second, .val (.ref b24), .val (.int r42)] [(.int (1 : Int32))])) _
              exact Steps.refl _)
            exact ⟨(1 : Int32), (by rw [if_pos hc114]), K62⟩
          · have K63 : Steps p.tables e below _ (T41.setTop (mkF m 122 #[.val (.int p0), .val (.long q1), .second, .val (.long q2), .second, .val (.long q3), .second, .val (.int v2_0), .val (.int v7_0), .val (.long r13), .second, .val (.long v16_0), .second, .val (.ref b24), .val (.int r42)] [(.int (0 : Int32))])) := R61.trans (by
              show Steps p.tables e below (T41.setTop (mkF m 114 #[.val (.int p0), .val (.long q1), .second, .val (.long q2), .second, .val (.long q3), .second, .val (.int v2_0), .val (.int v7_0), .val (.long r13), .second, .val (.long v16_0), .second, .val (.ref b24), .val (.int r42)] [(.int r42)])) _
              refine XS.ifYes X41.here hx rfl (pc0 := 114) (pc' := 121) rfl (hb hby at_114) rfl ((if0 _ _).trans (feq hc114).2) (by decide) (by decide) ?_
              show Steps p.tables e below (T41.setTop (mkF m 121 #[.val (.int p0), .val (.long q1), .second, .val (.long q2), .second, .val (.long q3), .second, .val (.int v2_0), .val (.int v7_0), .val (.long r13), .second, .val (.long v16_0), .second, .val (.ref b24), .val (.int r42)] [])) _
              refine XS.iconst X41.here hx rfl (hb hby at_121) ?_
              show Steps p.tables e below (T41.setTop (mkF m 122 #[.val (.int p0), .val (.long q1), .second, .val (.long q2), .second, .val (.long q3), .second, .val (.int v2_0), .val (.int v7_0), .val (.long r13), .second, .val (.long v16_0), .second, .val (.ref b24), .val (.int r42)] [(.int (0 : Int32))])) _
              exact Steps.refl _)
            exact ⟨(0 : Int32), (by rw [if_neg hc114]), K63⟩
        have K64 := K60.trans S61
        have hone : (v61_0 &&& 1) = (1 : Int32) := own_law_2 p0 q1 q2 q3 v2_0 v7_0 r13 v16_0 v27_0 v32_0 r42 v61_0 hv2_0 hv7_0 hr13 hv16_0 hv27_0 hv32_0 hr42 hv61_0 hc95 hc100 hc109
        obtain ⟨fs, hr, hrun, hended, hW, hsame⟩ := X41.leave (v := some (.int (v61_0 &&& 1))) (fun h => by rw [Bd.returns] at h; cases h)
        exact ⟨_, _, K64.trans (retN X41 hx (t := .boolean) Bd.returns (by simp) (hb hby at_122) hr), hrun, hended, _, _, rfl, ⟨by rw [hone], N41'⟩, ⟨_, rfl⟩, hW, hsame.mono (by decide) (by decide)⟩
      · have K65 : Steps p.tables e below _ (T41.setTop (mkF m 125 #[.val (.int p0), .val (.long q1), .second, .val (.long q2), .second, .val (.long q3), .second, .val (.int v2_0), .val (.int v7_0), .val (.long r13), .second, .val (.long v16_0), .second, .val (.ref b24), .val (.int r42)] [(.int r42)])) := K59.trans (by
          show Steps p.tables e below (T41.setTop (mkF m 109 #[.val (.int p0), .val (.long q1), .second, .val (.long q2), .second, .val (.long q3), .second, .val (.int v2_0), .val (.int v7_0), .val (.long r13), .second, .val (.long v16_0), .second, .val (.ref b24), .val (.int r42)] [(.int (lcmpW v16_0 (-9223372036854775808 : Int64)))])) _
          refine XS.ifYes X41.here hx rfl (pc0 := 109) (pc' := 123) rfl (hb hby at_109) rfl ((if0 _ _).trans (feq (fun z => hc109 ((lw_eq v16_0 (-9223372036854775808 : Int64)).mp z))).2) (by decide) (by decide) ?_
          show Steps p.tables e below (T41.setTop (mkF m 123 #[.val (.int p0), .val (.long q1), .second, .val (.long q2), .second, .val (.long q3), .second, .val (.int v2_0), .val (.int v7_0), .val (.long r13), .second, .val (.long v16_0), .second, .val (.ref b24), .val (.int r42)] [])) _
          refine XS.iload X41.here hx rfl (hb hby at_123) rfl ?_
          show Steps p.tables e below (T41.setTop (mkF m 125 #[.val (.int p0), .val (.long q1), .second, .val (.long q2), .second, .val (.long q3), .second, .val (.int v2_0), .val (.int v7_0), .val (.long r13), .second, .val (.long v16_0), .second, .val (.ref b24), .val (.int r42)] [(.int r42)])) _
          exact Steps.refl _)
        by_cases hc125 : r42 = (0 : Int32)
        · have K66 : Steps p.tables e below _ (T41.setTop (mkF m 186 #[.val (.int p0), .val (.long q1), .second, .val (.long q2), .second, .val (.long q3), .second, .val (.int v2_0), .val (.int v7_0), .val (.long r13), .second, .val (.long v16_0), .second, .val (.ref b24), .val (.int r42)] [(.long (v16_0 - (1 : Int64))), (.long v16_0), (.int v7_0), (.long r13), (.int v2_0)])) := K65.trans (by
            show Steps p.tables e below (T41.setTop (mkF m 125 #[.val (.int p0), .val (.long q1), .second, .val (.long q2), .second, .val (.long q3), .second, .val (.int v2_0), .val (.int v7_0), .val (.long r13), .second, .val (.long v16_0), .second, .val (.ref b24), .val (.int r42)] [(.int r42)])) _
            refine XS.ifYes X41.here hx rfl (pc0 := 125) (pc' := 150) rfl (hb hby at_125) rfl ((if0 _ _).trans (teq hc125).1) (by decide) (by decide) ?_
            show Steps p.tables e below (T41.setTop (mkF m 150 #[.val (.int p0), .val (.long q1), .second, .val (.long q2), .second, .val (.long q3), .second, .val (.int v2_0), .val (.int v7_0), .val (.long r13), .second, .val (.long v16_0), .second, .val (.ref b24), .val (.int r42)] [])) _
            refine XS.iload X41.here hx rfl (hb hby at_150) rfl ?_
            show Steps p.tables e below (T41.setTop (mkF m 152 #[.val (.int p0), .val (.long q1), .second, .val (.long q2), .second, .val (.long q3), .second, .val (.int v2_0), .val (.int v7_0), .val (.long r13), .second, .val (.long v16_0), .second, .val (.ref b24), .val (.int r42)] [(.int v2_0)])) _
            refine XS.ifYes X41.here hx rfl (pc0 := 152) (pc' := 169) rfl (hb hby at_152) rfl ((if0 _ _).trans (teq hc95).1) (by decide) (by decide) ?_
            show Steps p.tables e below (T41.setTop (mkF m 169 #[.val (.int p0), .val (.long q1), .second, .val (.long q2), .second, .val (.long q3), .second, .val (.int v2_0), .val (.int v7_0), .val (.long r13), .second, .val (.long v16_0), .second, .val (.ref b24), .val (.int r42)] [])) _
            refine XS.iload X41.here hx rfl (hb hby at_169) rfl ?_
            show Steps p.tables e below (T41.setTop (mkF m 171 #[.val (.int p0), .val (.long q1), .second, .val (.long q2), .second, .val (.long q3), .second, .val (.int v2_0), .val (.int v7_0), .val (.long r13), .second, .val (.long v16_0), .second, .val (.ref b24), .val (.int r42)] [(.int v7_0)])) _
            refine XS.ifNo X41.here hx rfl (hb hby at_171) rfl ((if0 _ _).trans (feq hc100).1) ?_
            show Steps p.tables e below (T41.setTop (mkF m 174 #[.val (.int p0), .val (.long q1), .second, .val (.long q2), .second, .val (.long q3), .second, .val (.int v2_0), .val (.int v7_0), .val (.long r13), .second, .val (.long v16_0), .second, .val (.ref b24), .val (.int r42)] [])) _
            refine XS.iload X41.here hx rfl (hb hby at_174) rfl ?_
            show Steps p.tables e below (T41.setTop (mkF m 176 #[.val (.int p0), .val (.long q1), .second, .val (.long q2), .second, .val (.long q3), .second, .val (.int v2_0), .val (.int v7_0), .val (.long r13), .second, .val (.long v16_0), .second, .val (.ref b24), .val (.int r42)] [(.int v2_0)])) _
            refine XS.lload X41.here hx rfl (hb hby at_176) rfl ?_
            show Steps p.tables e below (T41.setTop (mkF m 178 #[.val (.int p0), .val (.long q1), .second, .val (.long q2), .second, .val (.long q3), .second, .val (.int v2_0), .val (.int v7_0), .val (.long r13), .second, .val (.long v16_0), .second, .val (.ref b24), .val (.int r42)] [(.long r13), (.int v2_0)])) _
            refine XS.iload X41.here hx rfl (hb hby at_178) rfl ?_
            show Steps p.tables e below (T41.setTop (mkF m 180 #[.val (.int p0), .val (.long q1), .second, .val (.long q2), .second, .val (.long q3), .second, .val (.int v2_0), .val (.int v7_0), .val (.long r13), .second, .val (.long v16_0), .second, .val (.ref b24), .val (.int r42)] [(.int v7_0), (.long r13), (.int v2_0)])) _
            refine XS.lload X41.here hx rfl (hb hby at_180) rfl ?_
            show Steps p.tables e below (T41.setTop (mkF m 182 #[.val (.int p0), .val (.long q1), .second, .val (.long q2), .second, .val (.long q3), .second, .val (.int v2_0), .val (.int v7_0), .val (.long r13), .second, .val (.long v16_0), .second, .val (.ref b24), .val (.int r42)] [(.long v16_0), (.int v7_0), (.long r13), (.int v2_0)])) _
            refine XS.lload X41.here hx rfl (hb hby at_182) rfl ?_
            show Steps p.tables e below (T41.setTop (mkF m 184 #[.val (.int p0), .val (.long q1), .second, .val (.long q2), .second, .val (.long q3), .second, .val (.int v2_0), .val (.int v7_0), .val (.long r13), .second, .val (.long v16_0), .second, .val (.ref b24), .val (.int r42)] [(.long v16_0), (.long v16_0), (.int v7_0), (.long r13), (.int v2_0)])) _
            refine XS.lconst X41.here hx rfl (hb hby at_184) ?_
            show Steps p.tables e below (T41.setTop (mkF m 185 #[.val (.int p0), .val (.long q1), .second, .val (.long q2), .second, .val (.long q3), .second, .val (.int v2_0), .val (.int v7_0), .val (.long r13), .second, .val (.long v16_0), .second, .val (.ref b24), .val (.int r42)] [(.long (1 : Int64)), (.long v16_0), (.long v16_0), (.int v7_0), (.long r13), (.int v2_0)])) _
            refine XS.lsub X41.here hx rfl (hb hby at_185) rfl ?_
            show Steps p.tables e below (T41.setTop (mkF m 186 #[.val (.int p0), .val (.long q1), .second, .val (.long q2), .second, .val (.long q3), .second, .val (.int v2_0), .val (.int v7_0), .val (.long r13), .second, .val (.long v16_0), .second, .val (.ref b24), .val (.int r42)] [(.long (v16_0 - (1 : Int64))), (.long v16_0), (.int v7_0), (.long r13), (.int v2_0)])) _
            exact Steps.refl _)
          obtain ⟨_, _, ⟨T67, L67, k67, n67⟩, -, X67, ⟨Lc67, hQ67, l67, y67, z67⟩, st67⟩ := Jvm.LawKit.callS X41 hx (y := (⟨"com/example/spanfold/spanfold/RangeIsEmptyPinLaw", "holds", "(ZJZJJ)Z"⟩ : MethodName)) hown (mvT hZ (hw _ (List.mem_of_getElem? (i := 29) rfl))) (mvT hZ (hw _ (List.mem_of_getElem? (i := 30) rfl))) (mvT hZ (hw _ (List.mem_of_getElem? (i := 31) rfl))) (mvT hZ (hw _ (List.mem_of_getElem? (i := 32) rfl))) (by decide) (backOf (W := 0) (rm6 l Z a0 hw [] v2_0 r13 v7_0 v16_0 (v16_0 - (1 : Int64)) T37.heap n0 Z_40 ) hZ (hw _ (List.mem_of_getElem? (i := 32) rfl)) (hw _ (List.mem_of_getElem? (i := 31) rfl)) (by decide) (by decide)) (g := (mkF m 186 #[.val (.int p0), .val (.long q1), .second, .val (.long q2), .second, .val (.long q3), .second, .val (.int v2_0), .val (.int v7_0), .val (.long r13), .second, .val (.long v16_0), .second, .val (.ref b24), .val (.int r42)] [(.long (v16_0 - (1 : Int64))), (.long v16_0), (.int v7_0), (.long r13), (.int v2_0)])) rfl (by rw [hml]; rfl) (argsL := [(.int v2_0), (.long r13), (.int v7_0), (.long v16_0), (.long (v16_0 - (1 : Int64)))]) (rest := []) (lenOf pd_3 rfl) rfl (by show 2 * 0 + _ ≤ _; exact Nat.le_of_eq rfl) (hb hby at_186) (fun _ _ => ⟨rfl, eh41, (by decide : 1 + 0 ≤ _), (by decide : 4 + 0 ≤ _)⟩)
          dsimp only [Pt.U, Pt.locs, Pt.cells, Pt.slots] at X67 l67 y67 z67 st67 hQ67
          subst l67 y67 z67
          obtain ⟨rfl, N67, eh67⟩ := hQ67
          have N67' := Fr.app N41' N67
          have K69 : Steps p.tables e below _ (T67.setTop (mkF m 189 #[.val (.int p0), .val (.long q1), .second, .val (.long q2), .second, .val (.long q3), .second, .val (.int v2_0), .val (.int v7_0), .val (.long r13), .second, .val (.long v16_0), .second, .val (.ref b24), .val (.int r42)] [(.int ((if v2_0 = (0 : Int32) then (if v7_0 = (0 : Int32) then (1 : Int32) else (if (v16_0 - (1 : Int64)) < v16_0 then (1 : Int32) else (0 : Int32))) else (if (v16_0 - (1 : Int64)) < r13 then (0 : Int32) else (if v7_0 = (0 : Int32) then (1 : Int32) else (if (v16_0 - (1 : Int64)) < v16_0 then (1 : Int32) else (0 : Int32))))) &&& 1))])) := K66.trans (st67 _ (Steps.refl _))
          obtain ⟨r68, hr68⟩ : ∃ z : Int32, ((if v2_0 = (0 : Int32) then (if v7_0 = (0 : Int32) then (1 : Int32) else (if (v16_0 - (1 : Int64)) < v16_0 then (1 : Int32) else (0 : Int32))) else (if (v16_0 - (1 : Int64)) < r13 then (0 : Int32) else (if v7_0 = (0 : Int32) then (1 : Int32) else (if (v16_0 - (1 : Int64)) < v16_0 then (1 : Int32) else (0 : Int32))))) &&& 1) = z := ⟨_, rfl⟩
          rw [hr68] at K69
          have hone : (r68 &&& 1) = (1 : Int32) := own_law_3 p0 q1 q2 q3 v2_0 v7_0 r13 v16_0 v27_0 v32_0 r42 r68 hv2_0 hv7_0 hr13 hv16_0 hv27_0 hv32_0 hr42 hr68 hc95 hc100 hc109 hc125
          obtain ⟨fs, hr, hrun, hended, hW, hsame⟩ := X67.leave (v := some (.int (r68 &&& 1))) (fun h => by rw [Bd.returns] at h; cases h)
          exact ⟨_, _, K69.trans (retN X67 hx (t := .boolean) Bd.returns (by simp) (hb hby at_189) hr), hrun, hended, _, _, rfl, ⟨by rw [hone], N67'⟩, ⟨_, rfl⟩, hW, hsame.mono (by decide) (by decide)⟩
        · have K70 : Steps p.tables e below _ (T41.setTop (mkF m 138 #[.val (.int p0), .val (.long q1), .second, .val (.long q2), .second, .val (.long q3), .second, .val (.int v2_0), .val (.int v7_0), .val (.long r13), .second, .val (.long v16_0), .second, .val (.ref b24), .val (.int r42)] [(.long q3), (.long v16_0), (.int v7_0), (.long r13), (.int v2_0)])) := K65.trans (by
            show Steps p.tables e below (T41.setTop (mkF m 125 #[.val (.int p0), .val (.long q1), .second, .val (.long q2), .second, .val (.long q3), .second, .val (.int v2_0), .val (.int v7_0), .val (.long r13), .second, .val (.long v16_0), .second, .val (.ref b24), .val (.int r42)] [(.int r42)])) _
            refine XS.ifNo X41.here hx rfl (hb hby at_125) rfl ((if0 _ _).trans (feq hc125).1) ?_
            show Steps p.tables e below (T41.setTop (mkF m 128 #[.val (.int p0), .val (.long q1), .second, .val (.long q2), .second, .val (.long q3), .second, .val (.int v2_0), .val (.int v7_0), .val (.long r13), .second, .val (.long v16_0), .second, .val (.ref b24), .val (.int r42)] [])) _
            refine XS.iload X41.here hx rfl (hb hby at_128) rfl ?_
            show Steps p.tables e below (T41.setTop (mkF m 130 #[.val (.int p0), .val (.long q1), .second, .val (.long q2), .second, .val (.long q3), .second, .val (.int v2_0), .val (.int v7_0), .val (.long r13), .second, .val (.long v16_0), .second, .val (.ref b24), .val (.int r42)] [(.int v2_0)])) _
            refine XS.lload X41.here hx rfl (hb hby at_130) rfl ?_
            show Steps p.tables e below (T41.setTop (mkF m 132 #[.val (.int p0), .val (.long q1), .second, .val (.long q2), .second, .val (.long q3), .second, .val (.int v2_0), .val (.int v7_0), .val (.long r13), .second, .val (.long v16_0), .second, .val (.ref b24), .val (.int r42)] [(.long r13), (.int v2_0)])) _
            refine XS.iload X41.here hx rfl (hb hby at_132) rfl ?_
            show Steps p.tables e below (T41.setTop (mkF m 134 #[.val (.int p0), .val (.long q1), .second, .val (.long q2), .second, .val (.long q3), .second, .val (.int v2_0), .val (.int v7_0), .val (.long r13), .second, .val (.long v16_0), .second, .val (.ref b24), .val (.int r42)] [(.int v7_0), (.long r13), (.int v2_0)])) _
            refine XS.lload X41.here hx rfl (hb hby at_134) rfl ?_
            show Steps p.tables e below (T41.setTop (mkF m 136 #[.val (.int p0), .val (.long q1), .second, .val (.long q2), .second, .val (.long q3), .second, .val (.int v2_0), .val (.int v7_0), .val (.long r13), .second, .val (.long v16_0), .second, .val (.ref b24), .val (.int r42)] [(.long v16_0), (.int v7_0), (.long r13), (.int v2_0)])) _
            refine XS.lload X41.here hx rfl (hb hby at_136) rfl ?_
            show Steps p.tables e below (T41.setTop (mkF m 138 #[.val (.int p0), .val (.long q1), .second, .val (.long q2), .second, .val (.long q3), .second, .val (.int v2_0), .val (.int v7_0), .val (.long r13), .second, .val (.long v16_0), .second, .val (.ref b24), .val (.int r42)] [(.long q3), (.long v16_0), (.int v7_0), (.long r13), (.int v2_0)])) _
            exact Steps.refl _)
          obtain ⟨_, _, ⟨T71, L71, k71, n71⟩, -, X71, ⟨Lc71, hQ71, l71, y71, z71⟩, st71⟩ := Jvm.LawKit.callS X41 hx (y := (⟨"com/example/spanfold/spanfold/RangeIsEmptyPinLaw", "holds", "(ZJZJJ)Z"⟩ : MethodName)) hown (mvT hZ (hw _ (List.mem_of_getElem? (i := 29) rfl))) (mvT hZ (hw _ (List.mem_of_getElem? (i := 30) rfl))) (mvT hZ (hw _ (List.mem_of_getElem? (i := 31) rfl))) (mvT hZ (hw _ (List.mem_of_getElem? (i := 32) rfl))) (by decide) (backOf (W := 0) (rm6 l Z a0 hw [] v2_0 r13 v7_0 v16_0 q3 T37.heap n0 Z_40 ) hZ (hw _ (List.mem_of_getElem? (i := 32) rfl)) (hw _ (List.mem_of_getElem? (i := 31) rfl)) (by decide) (by decide)) (g := (mkF m 138 #[.val (.int p0), .val (.long q1), .second, .val (.long q2), .second, .val (.long q3), .second, .val (.int v2_0), .val (.int v7_0), .val (.long r13), .second, .val (.long v16_0), .second, .val (.ref b24), .val (.int r42)] [(.long q3), (.long v16_0), (.int v7_0), (.long r13), (.int v2_0)])) rfl (by rw [hml]; rfl) (argsL := [(.int v2_0), (.long r13), (.int v7_0), (.long v16_0), (.long q3)]) (rest := []) (lenOf pd_3 rfl) rfl (by show 2 * 0 + _ ≤ _; exact Nat.le_of_eq rfl) (hb hby at_138) (fun _ _ => ⟨rfl, eh41, (by decide : 1 + 0 ≤ _), (by decide : 4 + 0 ≤ _)⟩)
          dsimp only [Pt.U, Pt.locs, Pt.cells, Pt.slots] at X71 l71 y71 z71 st71 hQ71
          subst l71 y71 z71
          obtain ⟨rfl, N71, eh71⟩ := hQ71
          have N71' := Fr.app N41' N71
          have K73 : Steps p.tables e below _ (T71.setTop (mkF m 141 #[.val (.int p0), .val (.long q1), .second, .val (.long q2), .second, .val (.long q3), .second, .val (.int v2_0), .val (.int v7_0), .val (.long r13), .second, .val (.long v16_0), .second, .val (.ref b24), .val (.int r42)] [(.int ((if v2_0 = (0 : Int32) then (if v7_0 = (0 : Int32) then (1 : Int32) else (if q3 < v16_0 then (1 : Int32) else (0 : Int32))) else (if q3 < r13 then (0 : Int32) else (if v7_0 = (0 : Int32) then (1 : Int32) else (if q3 < v16_0 then (1 : Int32) else (0 : Int32))))) &&& 1))])) := K70.trans (st71 _ (Steps.refl _))
          obtain ⟨r72, hr72⟩ : ∃ z : Int32, ((if v2_0 = (0 : Int32) then (if v7_0 = (0 : Int32) then (1 : Int32) else (if q3 < v16_0 then (1 : Int32) else (0 : Int32))) else (if q3 < r13 then (0 : Int32) else (if v7_0 = (0 : Int32) then (1 : Int32) else (if q3 < v16_0 then (1 : Int32) else (0 : Int32))))) &&& 1) = z := ⟨_, rfl⟩
          rw [hr72] at K73
          obtain ⟨v74_0, hv74_0, S74⟩ : ∃ (v74_0 : Int32), (if r72 = (0 : Int32) then (1 : Int32) else (0 : Int32)) = v74_0 ∧ Steps p.tables e below (T71.setTop (mkF m 141 #[.val (.int p0), .val (.long q1), .second, .val (.long q2), .second, .val (.long q3), .second, .val (.int v2_0), .val (.int v7_0), .val (.long r13), .second, .val (.long v16_0), .second, .val (.ref b24), .val (.int r42)] [(.int r72)])) (T71.setTop (mkF m 149 #[.val (.int p0), .val (.long q1), .second, .val (.long q2), .second, .val (.long q3), .second, .val (.int v2_0), .val (.int v7_0), .val (.long r13), .second, .val (.long v16_0), .second, .val (.ref b24), .val (.int r42)] [(.int v74_0)])) := by
            have R74 : Steps p.tables e below (T71.setTop (mkF m 141 #[.val (.int p0), .val (.long q1), .second, .val (.long q2), .second, .val (.long q3), .second, .val (.int v2_0), .val (.int v7_0), .val (.long r13), .second, .val (.long v16_0), .second, .val (.ref b24), .val (.int r42)] [(.int r72)])) (T71.setTop (mkF m 141 #[.val (.int p0), .val (.long q1), .second, .val (.long q2), .second, .val (.long q3), .second, .val (.int v2_0), .val (.int v7_0), .val (.long r13), .second, .val (.long v16_0), .second, .val (.ref b24), .val (.int r42)] [(.int r72)])) := Steps.refl _
            by_cases hc141 : r72 = (0 : Int32)
            · have K75 : Steps p.tables e below _ (T71.setTop (mkF m 149 #[.val (.int p0), .val (.long q1), .second, .val (.long q2), .second, .val (.long q3), .second, .val (.int v2_0), .val (.int v7_0), .val (.long r13), .second, .val (.long v16_0), .second, .val (.ref b24), .val (.int r42)] [(.int (1 : Int32))])) := R74.trans (by
                show Steps p.tables e below (T71.setTop (mkF m 141 #[.val (.int p0), .val (.long q1), .second, .val (.long q2), .second, .val (.long q3), .second, .val (.int v2_0), .val (.int v7_0), .val (.long r13), .second, .val (.long v16_0), .second, .val (.ref b24), .val (.int r42)] [(.int r72)])) _
                refine XS.ifNo X71.here hx rfl (hb hby at_141) rfl ((if0 _ _).trans (teq hc141).2) ?_
                show Steps p.tables e below (T71.setTop (mkF m 144 #[.val (.int p0), .val (.long q1), .second, .val (.long q2), .second, .val (.long q3), .second, .val (.int v2_0), .val (.int v7_0), .val (.long r13), .second, .val (.long v16_0), .second, .val (.ref b24), .val (.int r42)] [])) _
                refine XS.iconst X71.here hx rfl (hb hby at_144) ?_
                show Steps p.tables e below (T71.setTop (mkF m 145 #[.val (.int p0), .val (.long q1), .second, .val (.long q2), .second, .val (.long q3), .second, .val (.int v2_0), .val (.int v7_0), .val (.long r13), .second, .val (.long v16_0), .second, .val (.ref b24), .val (.int r42)] [(.int (1 : Int32))])) _
                refine XS.goto X71.here hx rfl (pc0 := 145) (pc' := 149) rfl (hb hby at_145) (by decide) (by decide) ?_
                show Steps p.tables e below (T71.setTop (mkF m 149 #[.val (.int p0), .val (.long q1), .second, .val (.long q2), .second, .val (.long q3), .second, .val (.int v2_0), .val (.int v7_0), .val (.long r13), .second, .val (.long v16_0), .second, .val (.ref b24), .val (.int r42)] [(.int (1 : Int32))])) _
                exact Steps.refl _)
              exact ⟨(1 : Int32), (by rw [if_pos hc141]), K75⟩
            · have K76 : Steps p.tables e below _ (T71.setTop (mkF m 149 #[.val (.int p0), .val (.long q1), .second, .val (.long q2), .second, .val (.long q3), .second, .val (.int v2_0), .val (.int v7_0), .val (.long r13), .second, .val (.long v16_0), .second, .val (.ref b24), .val (.int r42)] [(.int (0 : Int32))])) := R74.trans (by
                show Steps p.tables e below (T71.setTop (mkF m 141 #[.val (.int p0), .val (.long q1), .second, .val (.long q2), .second, .val (.long q3), .second, .val (.int v2_0), .val (.int v7_0), .val (.long r13), .second, .val (.long v16_0), .second, .val (.ref b24), .val (.int r42)] [(.int r72)])) _
                refine XS.ifYes X71.here hx rfl (pc0 := 141) (pc' := 148) rfl (hb hby at_141) rfl ((if0 _ _).trans (feq hc141).2) (by decide) (by decide) ?_
                show Steps p.tables e below (T71.setTop (mkF m 148 #[.val (.int p0), .val (.long q1), .second, .val (.long q2), .second, .val (.long q3), .second, .val (.int v2_0), .val (.int v7_0), .val (.long r13), .second, .val (.long v16_0), .second, .val (.ref b24), .val (.int r42)] [])) _
                refine XS.iconst X71.here hx rfl (hb hby at_148) ?_
                show Steps p.tables e below (T71.setTop (mkF m 149 #[.val (.int p0), .val (.long q1), .second, .val (.long q2), .second, .val (.long q3), .second, .val (.int v2_0), .val (.int v7_0), .val (.long r13), .second, .val (.long v16_0), .second, .val (.ref b24), .val (.int r42)] [(.int (0 : Int32))])) _
                exact Steps.refl _)
              exact ⟨(0 : Int32), (by rw [if_neg hc141]), K76⟩
          have K77 := K73.trans S74
          have hone : (v74_0 &&& 1) = (1 : Int32) := own_law_4 p0 q1 q2 q3 v2_0 v7_0 r13 v16_0 v27_0 v32_0 r42 r72 v74_0 hv2_0 hv7_0 hr13 hv16_0 hv27_0 hv32_0 hr42 hr72 hv74_0 hc95 hc100 hc109 hc125
          obtain ⟨fs, hr, hrun, hended, hW, hsame⟩ := X71.leave (v := some (.int (v74_0 &&& 1))) (fun h => by rw [Bd.returns] at h; cases h)
          exact ⟨_, _, K77.trans (retN X71 hx (t := .boolean) Bd.returns (by simp) (hb hby at_149) hr), hrun, hended, _, _, rfl, ⟨by rw [hone], N71'⟩, ⟨_, rfl⟩, hW, hsame.mono (by decide) (by decide)⟩
  · have K78 : Steps p.tables e below _ (T41.setTop (mkF m 125 #[.val (.int p0), .val (.long q1), .second, .val (.long q2), .second, .val (.long q3), .second, .val (.int v2_0), .val (.int v7_0), .val (.long r13), .second, .val (.long v16_0), .second, .val (.ref b24), .val (.int r42)] [(.int r42)])) := K44.trans (by
      show Steps p.tables e below (T41.setTop (mkF m 95 #[.val (.int p0), .val (.long q1), .second, .val (.long q2), .second, .val (.long q3), .second, .val (.int v2_0), .val (.int v7_0), .val (.long r13), .second, .val (.long v16_0), .second, .val (.ref b24), .val (.int r42)] [(.int v2_0)])) _
      refine XS.ifYes X41.here hx rfl (pc0 := 95) (pc' := 123) rfl (hb hby at_95) rfl ((if0 _ _).trans (feq hc95).2) (by decide) (by decide) ?_
      show Steps p.tables e below (T41.setTop (mkF m 123 #[.val (.int p0), .val (.long q1), .second, .val (.long q2), .second, .val (.long q3), .second, .val (.int v2_0), .val (.int v7_0), .val (.long r13), .second, .val (.long v16_0), .second, .val (.ref b24), .val (.int r42)] [])) _
      refine XS.iload X41.here hx rfl (hb hby at_123) rfl ?_
      show Steps p.tables e below (T41.setTop (mkF m 125 #[.val (.int p0), .val (.long q1), .second, .val (.long q2), .second, .val (.long q3), .second, .val (.int v2_0), .val (.int v7_0), .val (.long r13), .second, .val (.long v16_0), .second, .val (.ref b24), .val (.int r42)] [(.int r42)])) _
      exact Steps.refl _)
    by_cases hc125 : r42 = (0 : Int32)
    · have K79 : Steps p.tables e below _ (T41.setTop (mkF m 165 #[.val (.int p0), .val (.long q1), .second, .val (.long q2), .second, .val (.long q3), .second, .val (.int v2_0), .val (.int v7_0), .val (.long r13), .second, .val (.long v16_0), .second, .val (.ref b24), .val (.int r42)] [(.long r13), (.long v16_0), (.int v7_0), (.long r13), (.int v2_0)])) := K78.trans (by
        show Steps p.tables e below (T41.setTop (mkF m 125 #[.val (.int p0), .val (.long q1), .second, .val (.long q2), .second, .val (.long q3), .second, .val (.int v2_0), .val (.int v7_0), .val (.long r13), .second, .val (.long v16_0), .second, .val (.ref b24), .val (.int r42)] [(.int r42)])) _
        refine XS.ifYes X41.here hx rfl (pc0 := 125) (pc' := 150) rfl (hb hby at_125) rfl ((if0 _ _).trans (teq hc125).1) (by decide) (by decide) ?_
        show Steps p.tables e below (T41.setTop (mkF m 150 #[.val (.int p0), .val (.long q1), .second, .val (.long q2), .second, .val (.long q3), .second, .val (.int v2_0), .val (.int v7_0), .val (.long r13), .second, .val (.long v16_0), .second, .val (.ref b24), .val (.int r42)] [])) _
        refine XS.iload X41.here hx rfl (hb hby at_150) rfl ?_
        show Steps p.tables e below (T41.setTop (mkF m 152 #[.val (.int p0), .val (.long q1), .second, .val (.long q2), .second, .val (.long q3), .second, .val (.int v2_0), .val (.int v7_0), .val (.long r13), .second, .val (.long v16_0), .second, .val (.ref b24), .val (.int r42)] [(.int v2_0)])) _
        refine XS.ifNo X41.here hx rfl (hb hby at_152) rfl ((if0 _ _).trans (feq hc95).1) ?_
        show Steps p.tables e below (T41.setTop (mkF m 155 #[.val (.int p0), .val (.long q1), .second, .val (.long q2), .second, .val (.long q3), .second, .val (.int v2_0), .val (.int v7_0), .val (.long r13), .second, .val (.long v16_0), .second, .val (.ref b24), .val (.int r42)] [])) _
        refine XS.iload X41.here hx rfl (hb hby at_155) rfl ?_
        show Steps p.tables e below (T41.setTop (mkF m 157 #[.val (.int p0), .val (.long q1), .second, .val (.long q2), .second, .val (.long q3), .second, .val (.int v2_0), .val (.int v7_0), .val (.long r13), .second, .val (.long v16_0), .second, .val (.ref b24), .val (.int r42)] [(.int v2_0)])) _
        refine XS.lload X41.here hx rfl (hb hby at_157) rfl ?_
        show Steps p.tables e below (T41.setTop (mkF m 159 #[.val (.int p0), .val (.long q1), .second, .val (.long q2), .second, .val (.long q3), .second, .val (.int v2_0), .val (.int v7_0), .val (.long r13), .second, .val (.long v16_0), .second, .val (.ref b24), .val (.int r42)] [(.long r13), (.int v2_0)])) _
        refine XS.iload X41.here hx rfl (hb hby at_159) rfl ?_
        show Steps p.tables e below (T41.setTop (mkF m 161 #[.val (.int p0), .val (.long q1), .second, .val (.long q2), .second, .val (.long q3), .second, .val (.int v2_0), .val (.int v7_0), .val (.long r13), .second, .val (.long v16_0), .second, .val (.ref b24), .val (.int r42)] [(.int v7_0), (.long r13), (.int v2_0)])) _
        refine XS.lload X41.here hx rfl (hb hby at_161) rfl ?_
        show Steps p.tables e below (T41.setTop (mkF m 163 #[.val (.int p0), .val (.long q1), .second, .val (.long q2), .second, .val (.long q3), .second, .val (.int v2_0), .val (.int v7_0), .val (.long r13), .second, .val (.long v16_0), .second, .val (.ref b24), .val (.int r42)] [(.long v16_0), (.int v7_0), (.long r13), (.int v2_0)])) _
        refine XS.lload X41.here hx rfl (hb hby at_163) rfl ?_
        show Steps p.tables e below (T41.setTop (mkF m 165 #[.val (.int p0), .val (.long q1), .second, .val (.long q2), .second, .val (.long q3), .second, .val (.int v2_0), .val (.int v7_0), .val (.long r13), .second, .val (.long v16_0), .second, .val (.ref b24), .val (.int r42)] [(.long r13), (.long v16_0), (.int v7_0), (.long r13), (.int v2_0)])) _
        exact Steps.refl _)
      obtain ⟨_, _, ⟨T80, L80, k80, n80⟩, -, X80, ⟨Lc80, hQ80, l80, y80, z80⟩, st80⟩ := Jvm.LawKit.callS X41 hx (y := (⟨"com/example/spanfold/spanfold/RangeIsEmptyPinLaw", "holds", "(ZJZJJ)Z"⟩ : MethodName)) hown (mvT hZ (hw _ (List.mem_of_getElem? (i := 29) rfl))) (mvT hZ (hw _ (List.mem_of_getElem? (i := 30) rfl))) (mvT hZ (hw _ (List.mem_of_getElem? (i := 31) rfl))) (mvT hZ (hw _ (List.mem_of_getElem? (i := 32) rfl))) (by decide) (backOf (W := 0) (rm6 l Z a0 hw [] v2_0 r13 v7_0 v16_0 r13 T37.heap n0 Z_40 ) hZ (hw _ (List.mem_of_getElem? (i := 32) rfl)) (hw _ (List.mem_of_getElem? (i := 31) rfl)) (by decide) (by decide)) (g := (mkF m 165 #[.val (.int p0), .val (.long q1), .second, .val (.long q2), .second, .val (.long q3), .second, .val (.int v2_0), .val (.int v7_0), .val (.long r13), .second, .val (.long v16_0), .second, .val (.ref b24), .val (.int r42)] [(.long r13), (.long v16_0), (.int v7_0), (.long r13), (.int v2_0)])) rfl (by rw [hml]; rfl) (argsL := [(.int v2_0), (.long r13), (.int v7_0), (.long v16_0), (.long r13)]) (rest := []) (lenOf pd_3 rfl) rfl (by show 2 * 0 + _ ≤ _; exact Nat.le_of_eq rfl) (hb hby at_165) (fun _ _ => ⟨rfl, eh41, (by decide : 1 + 0 ≤ _), (by decide : 4 + 0 ≤ _)⟩)
      dsimp only [Pt.U, Pt.locs, Pt.cells, Pt.slots] at X80 l80 y80 z80 st80 hQ80
      subst l80 y80 z80
      obtain ⟨rfl, N80, eh80⟩ := hQ80
      have N80' := Fr.app N41' N80
      have K82 : Steps p.tables e below _ (T80.setTop (mkF m 168 #[.val (.int p0), .val (.long q1), .second, .val (.long q2), .second, .val (.long q3), .second, .val (.int v2_0), .val (.int v7_0), .val (.long r13), .second, .val (.long v16_0), .second, .val (.ref b24), .val (.int r42)] [(.int ((if v2_0 = (0 : Int32) then (if v7_0 = (0 : Int32) then (1 : Int32) else (if r13 < v16_0 then (1 : Int32) else (0 : Int32))) else (if r13 < r13 then (0 : Int32) else (if v7_0 = (0 : Int32) then (1 : Int32) else (if r13 < v16_0 then (1 : Int32) else (0 : Int32))))) &&& 1))])) := K79.trans (st80 _ (Steps.refl _))
      obtain ⟨r81, hr81⟩ : ∃ z : Int32, ((if v2_0 = (0 : Int32) then (if v7_0 = (0 : Int32) then (1 : Int32) else (if r13 < v16_0 then (1 : Int32) else (0 : Int32))) else (if r13 < r13 then (0 : Int32) else (if v7_0 = (0 : Int32) then (1 : Int32) else (if r13 < v16_0 then (1 : Int32) else (0 : Int32))))) &&& 1) = z := ⟨_, rfl⟩
      rw [hr81] at K82
      have hone : (r81 &&& 1) = (1 : Int32) := own_law_5 p0 q1 q2 q3 v2_0 v7_0 r13 v16_0 v27_0 v32_0 r42 r81 hv2_0 hv7_0 hr13 hv16_0 hv27_0 hv32_0 hr42 hr81 hc95 hc125
      obtain ⟨fs, hr, hrun, hended, hW, hsame⟩ := X80.leave (v := some (.int (r81 &&& 1))) (fun h => by rw [Bd.returns] at h; cases h)
      exact ⟨_, _, K82.trans (retN X80 hx (t := .boolean) Bd.returns (by simp) (hb hby at_168) hr), hrun, hended, _, _, rfl, ⟨by rw [hone], N80'⟩, ⟨_, rfl⟩, hW, hsame.mono (by decide) (by decide)⟩
    · have K83 : Steps p.tables e below _ (T41.setTop (mkF m 138 #[.val (.int p0), .val (.long q1), .second, .val (.long q2), .second, .val (.long q3), .second, .val (.int v2_0), .val (.int v7_0), .val (.long r13), .second, .val (.long v16_0), .second, .val (.ref b24), .val (.int r42)] [(.long q3), (.long v16_0), (.int v7_0), (.long r13), (.int v2_0)])) := K78.trans (by
        show Steps p.tables e below (T41.setTop (mkF m 125 #[.val (.int p0), .val (.long q1), .second, .val (.long q2), .second, .val (.long q3), .second, .val (.int v2_0), .val (.int v7_0), .val (.long r13), .second, .val (.long v16_0), .second, .val (.ref b24), .val (.int r42)] [(.int r42)])) _
        refine XS.ifNo X41.here hx rfl (hb hby at_125) rfl ((if0 _ _).trans (feq hc125).1) ?_
        show Steps p.tables e below (T41.setTop (mkF m 128 #[.val (.int p0), .val (.long q1), .second, .val (.long q2), .second, .val (.long q3), .second, .val (.int v2_0), .val (.int v7_0), .val (.long r13), .second, .val (.long v16_0), .second, .val (.ref b24), .val (.int r42)] [])) _
        refine XS.iload X41.here hx rfl (hb hby at_128) rfl ?_
        show Steps p.tables e below (T41.setTop (mkF m 130 #[.val (.int p0), .val (.long q1), .second, .val (.long q2), .second, .val (.long q3), .second, .val (.int v2_0), .val (.int v7_0), .val (.long r13), .second, .val (.long v16_0), .second, .val (.ref b24), .val (.int r42)] [(.int v2_0)])) _
        refine XS.lload X41.here hx rfl (hb hby at_130) rfl ?_
        show Steps p.tables e below (T41.setTop (mkF m 132 #[.val (.int p0), .val (.long q1), .second, .val (.long q2), .second, .val (.long q3), .second, .val (.int v2_0), .val (.int v7_0), .val (.long r13), .second, .val (.long v16_0), .second, .val (.ref b24), .val (.int r42)] [(.long r13), (.int v2_0)])) _
        refine XS.iload X41.here hx rfl (hb hby at_132) rfl ?_
        show Steps p.tables e below (T41.setTop (mkF m 134 #[.val (.int p0), .val (.long q1), .second, .val (.long q2), .second, .val (.long q3), .second, .val (.int v2_0), .val (.int v7_0), .val (.long r13), .second, .val (.long v16_0), .second, .val (.ref b24), .val (.int r42)] [(.int v7_0), (.long r13), (.int v2_0)])) _
        refine XS.lload X41.here hx rfl (hb hby at_134) rfl ?_
        show Steps p.tables e below (T41.setTop (mkF m 136 #[.val (.int p0), .val (.long q1), .second, .val (.long q2), .second, .val (.long q3), .second, .val (.int v2_0), .val (.int v7_0), .val (.long r13), .second, .val (.long v16_0), .second, .val (.ref b24), .val (.int r42)] [(.long v16_0), (.int v7_0), (.long r13), (.int v2_0)])) _
        refine XS.lload X41.here hx rfl (hb hby at_136) rfl ?_
        show Steps p.tables e below (T41.setTop (mkF m 138 #[.val (.int p0), .val (.long q1), .second, .val (.long q2), .second, .val (.long q3), .second, .val (.int v2_0), .val (.int v7_0), .val (.long r13), .second, .val (.long v16_0), .second, .val (.ref b24), .val (.int r42)] [(.long q3), (.long v16_0), (.int v7_0), (.long r13), (.int v2_0)])) _
        exact Steps.refl _)
      obtain ⟨_, _, ⟨T84, L84, k84, n84⟩, -, X84, ⟨Lc84, hQ84, l84, y84, z84⟩, st84⟩ := Jvm.LawKit.callS X41 hx (y := (⟨"com/example/spanfold/spanfold/RangeIsEmptyPinLaw", "holds", "(ZJZJJ)Z"⟩ : MethodName)) hown (mvT hZ (hw _ (List.mem_of_getElem? (i := 29) rfl))) (mvT hZ (hw _ (List.mem_of_getElem? (i := 30) rfl))) (mvT hZ (hw _ (List.mem_of_getElem? (i := 31) rfl))) (mvT hZ (hw _ (List.mem_of_getElem? (i := 32) rfl))) (by decide) (backOf (W := 0) (rm6 l Z a0 hw [] v2_0 r13 v7_0 v16_0 q3 T37.heap n0 Z_40 ) hZ (hw _ (List.mem_of_getElem? (i := 32) rfl)) (hw _ (List.mem_of_getElem? (i := 31) rfl)) (by decide) (by decide)) (g := (mkF m 138 #[.val (.int p0), .val (.long q1), .second, .val (.long q2), .second, .val (.long q3), .second, .val (.int v2_0), .val (.int v7_0), .val (.long r13), .second, .val (.long v16_0), .second, .val (.ref b24), .val (.int r42)] [(.long q3), (.long v16_0), (.int v7_0), (.long r13), (.int v2_0)])) rfl (by rw [hml]; rfl) (argsL := [(.int v2_0), (.long r13), (.int v7_0), (.long v16_0), (.long q3)]) (rest := []) (lenOf pd_3 rfl) rfl (by show 2 * 0 + _ ≤ _; exact Nat.le_of_eq rfl) (hb hby at_138) (fun _ _ => ⟨rfl, eh41, (by decide : 1 + 0 ≤ _), (by decide : 4 + 0 ≤ _)⟩)
      dsimp only [Pt.U, Pt.locs, Pt.cells, Pt.slots] at X84 l84 y84 z84 st84 hQ84
      subst l84 y84 z84
      obtain ⟨rfl, N84, eh84⟩ := hQ84
      have N84' := Fr.app N41' N84
      have K86 : Steps p.tables e below _ (T84.setTop (mkF m 141 #[.val (.int p0), .val (.long q1), .second, .val (.long q2), .second, .val (.long q3), .second, .val (.int v2_0), .val (.int v7_0), .val (.long r13), .second, .val (.long v16_0), .second, .val (.ref b24), .val (.int r42)] [(.int ((if v2_0 = (0 : Int32) then (if v7_0 = (0 : Int32) then (1 : Int32) else (if q3 < v16_0 then (1 : Int32) else (0 : Int32))) else (if q3 < r13 then (0 : Int32) else (if v7_0 = (0 : Int32) then (1 : Int32) else (if q3 < v16_0 then (1 : Int32) else (0 : Int32))))) &&& 1))])) := K83.trans (st84 _ (Steps.refl _))
      obtain ⟨r85, hr85⟩ : ∃ z : Int32, ((if v2_0 = (0 : Int32) then (if v7_0 = (0 : Int32) then (1 : Int32) else (if q3 < v16_0 then (1 : Int32) else (0 : Int32))) else (if q3 < r13 then (0 : Int32) else (if v7_0 = (0 : Int32) then (1 : Int32) else (if q3 < v16_0 then (1 : Int32) else (0 : Int32))))) &&& 1) = z := ⟨_, rfl⟩
      rw [hr85] at K86
      obtain ⟨v87_0, hv87_0, S87⟩ : ∃ (v87_0 : Int32), (if r85 = (0 : Int32) then (1 : Int32) else (0 : Int32)) = v87_0 ∧ Steps p.tables e below (T84.setTop (mkF m 141 #[.val (.int p0), .val (.long q1), .second, .val (.long q2), .second, .val (.long q3), .second, .val (.int v2_0), .val (.int v7_0), .val (.long r13), .second, .val (.long v16_0), .second, .val (.ref b24), .val (.int r42)] [(.int r85)])) (T84.setTop (mkF m 149 #[.val (.int p0), .val (.long q1), .second, .val (.long q2), .second, .val (.long q3), .second, .val (.int v2_0), .val (.int v7_0), .val (.long r13), .second, .val (.long v16_0), .second, .val (.ref b24), .val (.int r42)] [(.int v87_0)])) := by
        have R87 : Steps p.tables e below (T84.setTop (mkF m 141 #[.val (.int p0), .val (.long q1), .second, .val (.long q2), .second, .val (.long q3), .second, .val (.int v2_0), .val (.int v7_0), .val (.long r13), .second, .val (.long v16_0), .second, .val (.ref b24), .val (.int r42)] [(.int r85)])) (T84.setTop (mkF m 141 #[.val (.int p0), .val (.long q1), .second, .val (.long q2), .second, .val (.long q3), .second, .val (.int v2_0), .val (.int v7_0), .val (.long r13), .second, .val (.long v16_0), .second, .val (.ref b24), .val (.int r42)] [(.int r85)])) := Steps.refl _
        by_cases hc141 : r85 = (0 : Int32)
        · have K88 : Steps p.tables e below _ (T84.setTop (mkF m 149 #[.val (.int p0), .val (.long q1), .second, .val (.long q2), .second, .val (.long q3), .second, .val (.int v2_0), .val (.int v7_0), .val (.long r13), .second, .val (.long v16_0), .second, .val (.ref b24), .val (.int r42)] [(.int (1 : Int32))])) := R87.trans (by
            show Steps p.tables e below (T84.setTop (mkF m 141 #[.val (.int p0), .val (.long q1), .second, .val (.long q2), .second, .val (.long q3), .second, .val (.int v2_0), .val (.int v7_0), .val (.long r13), .second, .val (.long v16_0), .second, .val (.ref b24), .val (.int r42)] [(.int r85)])) _
            refine XS.ifNo X84.here hx rfl (hb hby at_141) rfl ((if0 _ _).trans (teq hc141).2) ?_
            show Steps p.tables e below (T84.setTop (mkF m 144 #[.val (.int p0), .val (.long q1), .second, .val (.long q2), .second, .val (.long q3), .second, .val (.int v2_0), .val (.int v7_0), .val (.long r13), .second, .val (.long v16_0), .second, .val (.ref b24), .val (.int r42)] [])) _
            refine XS.iconst X84.here hx rfl (hb hby at_144) ?_
            show Steps p.tables e below (T84.setTop (mkF m 145 #[.val (.int p0), .val (.long q1), .second, .val (.long q2), .second, .val (.long q3), .second, .val (.int v2_0), .val (.int v7_0), .val (.long r13), .second, .val (.long v16_0), .second, .val (.ref b24), .val (.int r42)] [(.int (1 : Int32))])) _
            refine XS.goto X84.here hx rfl (pc0 := 145) (pc' := 149) rfl (hb hby at_145) (by decide) (by decide) ?_
            show Steps p.tables e below (T84.setTop (mkF m 149 #[.val (.int p0), .val (.long q1), .second, .val (.long q2), .second, .val (.long q3), .second, .val (.int v2_0), .val (.int v7_0), .val (.long r13), .second, .val (.long v16_0), .second, .val (.ref b24), .val (.int r42)] [(.int (1 : Int32))])) _
            exact Steps.refl _)
          exact ⟨(1 : Int32), (by rw [if_pos hc141]), K88⟩
        · have K89 : Steps p.tables e below _ (T84.setTop (mkF m 149 #[.val (.int p0), .val (.long q1), .second, .val (.long q2), .second, .val (.long q3), .second, .val (.int v2_0), .val (.int v7_0), .val (.long r13), .second, .val (.long v16_0), .second, .val (.ref b24), .val (.int r42)] [(.int (0 : Int32))])) := R87.trans (by
            show Steps p.tables e below (T84.setTop (mkF m 141 #[.val (.int p0), .val (.long q1), .second, .val (.long q2), .second, .val (.long q3), .second, .val (.int v2_0), .val (.int v7_0), .val (.long r13), .second, .val (.long v16_0), .second, .val (.ref b24), .val (.int r42)] [(.int r85)])) _
            refine XS.ifYes X84.here hx rfl (pc0 := 141) (pc' := 148) rfl (hb hby at_141) rfl ((if0 _ _).trans (feq hc141).2) (by decide) (by decide) ?_
            show Steps p.tables e below (T84.setTop (mkF m 148 #[.val (.int p0), .val (.long q1), .second, .val (.long q2), .second, .val (.long q3), .second, .val (.int v2_0), .val (.int v7_0), .val (.long r13), .second, .val (.long v16_0), .second, .val (.ref b24), .val (.int r42)] [])) _
            refine XS.iconst X84.here hx rfl (hb hby at_148) ?_
            show Steps p.tables e below (T84.setTop (mkF m 149 #[.val (.int p0), .val (.long q1), .second, .val (.long q2), .second, .val (.long q3), .second, .val (.int v2_0), .val (.int v7_0), .val (.long r13), .second, .val (.long v16_0), .second, .val (.ref b24), .val (.int r42)] [(.int (0 : Int32))])) _
            exact Steps.refl _)
          exact ⟨(0 : Int32), (by rw [if_neg hc141]), K89⟩
      have K90 := K86.trans S87
      have hone : (v87_0 &&& 1) = (1 : Int32) := own_law_6 p0 q1 q2 q3 v2_0 v7_0 r13 v16_0 v27_0 v32_0 r42 r85 v87_0 hv2_0 hv7_0 hr13 hv16_0 hv27_0 hv32_0 hr42 hr85 hv87_0 hc95 hc125
      obtain ⟨fs, hr, hrun, hended, hW, hsame⟩ := X84.leave (v := some (.int (v87_0 &&& 1))) (fun h => by rw [Bd.returns] at h; cases h)
      exact ⟨_, _, K90.trans (retN X84 hx (t := .boolean) Bd.returns (by simp) (hb hby at_149) hr), hrun, hended, _, _, rfl, ⟨by rw [hone], N84'⟩, ⟨_, rfl⟩, hW, hsame.mono (by decide) (by decide)⟩
set_option maxRecDepth 65536 in
set_option maxHeartbeats 40000000 in
theorem comes_1 {Post : Tables → Env → Array Value → State → Outcome → State → Prop} (hpost : ∀ tb e args s v u, (limb_1_1.after args s (.returned v) u = true ∧ limb_1_2.after args s (.returned v) u = true ∧ True) → FrameEnd s (.returned v) u (Jvm.fieldLocs frame_1_writes args s ++ Jvm.arrayLocs frame_1_arrays args s ++ Jvm.staticLocs frame_1_statics s) 16 128 → Post tb e args s (.returned v) u) :
    ArmFor flags0 classFile x code maxLocals ret World_1 tables_1 room_1 Calls_1 rest_1 Pre_1 Post := by
  intro l hfl _ _ p e ha hc hk s m args below hf hA hF happ hP
  obtain ⟨hcalls, hrest, hpre⟩ := hP
  obtain ⟨-, -, -, hnamed, -, -, -, hat⟩ := (Spec.applies_iff hf).mp happ
  obtain ⟨hg, hn⟩ := and_e (Cond.before_iff.mp (show (Jvm.Cond.and given_1 narrow_1).before args s = true from hpre))
  obtain ⟨g1, g2⟩ := and_e hg
  obtain ⟨g3, g4⟩ := and_e g2
  obtain ⟨g5, g6⟩ := and_e g4
  obtain ⟨g7, g8⟩ := and_e g6
  obtain ⟨w0, w1, w2, w3, rfl⟩ : ∃ w0 w1 w2 w3 : Value, args = #[w0, w1, w2, w3] := by
    have hs : args.size = 4 := by simpa [Cond.value, given_1] using g1
    obtain ⟨L⟩ := args
    match L, hs with
    | [w0, w1, w2, w3], _ => exact ⟨w0, w1, w2, w3, rfl⟩
  have hw := fun d (hd : d ∈ tables_1) => atoms_spec (ws := Jvm.Cond.code x code maxLocals ret :: tables_1) hat d (List.mem_cons_of_mem _ hd)
  obtain ⟨i0, ei0⟩ := is_v g3
  obtain rfl : w0 = (.int i0) := Option.some.inj ei0
  obtain ⟨i1, ei1⟩ := isL_v g5
  obtain rfl : w1 = (.long i1) := Option.some.inj ei1
  obtain ⟨i2, ei2⟩ := isL_v g7
  obtain rfl : w2 = (.long i2) := Option.some.inj ei2
  obtain ⟨i3, ei3⟩ := isL_v g8
  obtain rfl : w3 = (.long i3) := Option.some.inj ei3
  obtain ⟨n, o, h1, h2, h3, _, L, rfl, ⟨rfl, N⟩, hq⟩ := rm0 l s _ hw tables_1 i0 i1 i2 i3 s.heap s.heap.size (Nat.le_refl _) p e ha hc hk s m _ below hf ((Spec.applies_iff_loose hf).mp happ).1 ⟨rfl, State.Warmed39.refl s, rfl⟩ trivial
  refine ⟨n, _, h1, h2, h3, hpost _ _ _ _ _ _ ⟨Cond.after_iff.mpr rfl, Cond.after_iff.mpr (eq_i res_at (Term.int_eval (1)) rfl), trivial⟩ ⟨hq.1, hq.2.1, (hq.2.2.sift fun y hy => Or.inr (N y hy)).mono (by decide) (by decide)⟩⟩
theorem main_1_1 : Claimed_1_1 := comes_1 fun _ _ _ _ _ _ h hF => ⟨h.1, hF⟩
theorem main_1_2 : Claimed_1_2 := comes_1 fun _ _ _ _ _ _ h hF => ⟨h.2.1, hF⟩
end Jvm.Pilot.@@N@@
namespace Jvm.Pilot.@@N@@
open Jvm Jvm.ClassFile Sem Op Lib Jvm.Free Jvm.Stand Jvm.Pilot.@@N@@.Jvm.D
/-! MADE BY PROGRAM (witnessworld.py) out of the Statement's table words and the real class files: 10 classes; the members and pool entries that the words name. The judged class is class 1, her method 2. -/
namespace start1
open Jvm.ClassFile
def u (s : String) : CpInfo := .utf8 (stringToUtf16 s)
/-- a pool by its gaps: so many unusable entries, then the entry; so many at the end -/
def gap : Nat → List CpInfo → List CpInfo
  | 0, r => r
  | n + 1, r => .unusable :: gap n r
def poolList (es : List (Nat × CpInfo)) (last : Nat) : List CpInfo := es.foldr (fun e r => gap e.1 (e.2 :: r)) (gap last [])
def pool (es : List (Nat × CpInfo)) (last : Nat) : Array CpInfo := ⟨poolList es last⟩
def fileOf (pool : Array CpInfo) (this : Nat) (attrs : Array Attribute := #[]) (ms : Array MethodInfo := #[]) (fl : Nat := 33) (sup : Nat := 0) (ifs : Array Nat := #[]) (fds : Array FieldInfo := #[]) : ClassFile where
  minorVersion := 0
  majorVersion := 65
  constantPool := pool
  accessFlags := fl
  thisClass := this
  superClass := sup
  interfaces := ifs
  fields := fds
  methods := ms
  attributes := attrs
def plain (name : String) (sup : Option ClassId) : Class where
  name := name
  kind := .ordinary
  loader := none
  accessFlags := 33
  super := sup
  interfaces := #[]
  cf := none
  fields := #[]
  methods := #[]
  instanceTypes := #[]
  staticTypes := #[]
  resolved := #[]
  callSites := []
  init := .initialized
  statics := none
  mirror := none

def pool0 : Array CpInfo := pool [(5, u "<init>"), (0, u "()V"), (1, .class_ 10), (1, u "java/lang/Object")] 113

def k0c0 : Code := { maxStack := 0, maxLocals := 1, code := object_method_1_code, exceptionTable := #[], attributes := #[] }
def k0m0 : Method := { name := "<init>", desc := "()V", sig := { parameters := [], returnType := none }, accessFlags := 1, code := some k0c0 }
/-- java/lang/Object -/
def k0 : Class := { plain "java/lang/Object" none with
  accessFlags := 33
  interfaces := #[]
  cf := some (fileOf pool0 8 #[] #[{ accessFlags := 1, nameIndex := 5, descriptorIndex := 6, attributes := #[] }] 33 0 #[] #[])
  fields := #[]
  methods := #[k0m0]
  instanceTypes := #[]
  staticTypes := #[]
  resolved := Array.replicate 124 none
  statics := none }

def pool1 : Array CpInfo := pool [(2, .class_ 4), (1, u "java/lang/Object"), (0, u "<init>"), (0, u "()V"), (0, .methodref 8 9), (0, .class_ 10), (0, .nameAndType 11 12), (0, u "java/lang/Math"), (0, u "min"), (0, u "(JJ)J"), (0, .methodref 8 14), (0, .nameAndType 15 12), (0, u "max"), (0, .class_ 17), (0, u "com/example/spanfold/spanfold/Range"), (0, .methodref 16 19), (0, .nameAndType 5 20), (0, u "(ZJZJ)V"), (0, .methodref 16 22), (0, .nameAndType 23 24), (0, u "isEmpty"), (0, u "()Z"), (2, .long 9223372036854775808), (1, .methodref 30 31), (0, .class_ 32), (0, .nameAndType 33 34), (0, u "com/example/spanfold/spanfold/RangeIsEmptyPinLaw"), (0, u "holds"), (0, u "(ZJZJJ)Z"), (3, u "law"), (0, u "(IJJJ)Z")] 2

def k1m0 : Method := { name := "<init>", desc := "()V", sig := { parameters := [], returnType := none }, accessFlags := 1, code := none }
def k1c1 : Code := { maxStack := 4, maxLocals := 8, code := method_2_code, exceptionTable := #[], attributes := #[] }
def k1m1 : Method := { name := "holds", desc := "(ZJZJJ)Z", sig := { parameters := [.boolean, .long, .boolean, .long, .long], returnType := some .boolean }, accessFlags := 10, code := some k1c1 }
def k1c2 : Code := { maxStack := 10, maxLocals := 15, code := code, exceptionTable := #[], attributes := #[] }
def k1m2 : Method := { name := "law", desc := "(IJJJ)Z", sig := { parameters := [.int, .long, .long, .long], returnType := some .boolean }, accessFlags := 9, code := some k1c2 }
/-- com/example/spanfold/spanfold/RangeIsEmptyPinLaw -/
def k1 : Class := { plain "com/example/spanfold/spanfold/RangeIsEmptyPinLaw" (some 0) with
  accessFlags := 49
  interfaces := #[]
  cf := some (fileOf pool1 30 #[] #[{ accessFlags := 1, nameIndex := 5, descriptorIndex := 6, attributes := #[] }, { accessFlags := 10, nameIndex := 33, descriptorIndex := 34, attributes := #[] }, { accessFlags := 9, nameIndex := 38, descriptorIndex := 39, attributes := #[] }] 49 2 #[] #[])
  fields := #[]
  methods := #[k1m0, k1m1, k1m2]
  instanceTypes := #[]
  staticTypes := #[]
  resolved := Array.replicate 42 none
  statics := none }

def pool2 : Array CpInfo := pool [(1, .class_ 2), (0, u "java/lang/Math"), (1, .class_ 6), (1, u "java/lang/Object"), (0, u "<init>"), (0, u "()V"), (89, .class_ 100), (1, u "java/lang/Math$RandomNumberGeneratorHolder"), (20, u "(JJ)J"), (50, u "negativeZeroFloatBits"), (0, u "J"), (2, u "negativeZeroDoubleBits"), (21, u "max"), (2, u "min"), (43, u "$assertionsDisabled"), (0, u "Z"), (91, u "twoToTheDoubleScaleDown"), (0, u "D"), (4, u "twoToTheDoubleScaleUp"), (9, u "E"), (3, u "PI"), (2, u "TAU"), (2, u "DEGREES_TO_RADIANS"), (0, u "RADIANS_TO_DEGREES")] 94

def k2m0 : Method := { name := "<init>", desc := "()V", sig := { parameters := [], returnType := none }, accessFlags := 2, code := none }
def k2c1 : Code := { maxStack := 4, maxLocals := 4, code := jdk_29_method_66_code, exceptionTable := #[], attributes := #[] }
def k2m1 : Method := { name := "max", desc := "(JJ)J", sig := { parameters := [.long, .long], returnType := some .long }, accessFlags := 9, code := some k2c1 }
def k2c2 : Code := { maxStack := 4, maxLocals := 4, code := jdk_29_method_70_code, exceptionTable := #[], attributes := #[] }
def k2m2 : Method := { name := "min", desc := "(JJ)J", sig := { parameters := [.long, .long], returnType := some .long }, accessFlags := 9, code := some k2c2 }
/-- java/lang/Math -/
def k2 : Class := { plain "java/lang/Math" (some 0) with
  accessFlags := 49
  interfaces := #[]
  cf := some (fileOf pool2 1 #[.nestMembers #[98]] #[{ accessFlags := 2, nameIndex := 7, descriptorIndex := 8, attributes := #[] }, { accessFlags := 9, nameIndex := 198, descriptorIndex := 121, attributes := #[] }, { accessFlags := 9, nameIndex := 201, descriptorIndex := 121, attributes := #[] }] 49 4 #[] #[{ accessFlags := 25, nameIndex := 354, descriptorIndex := 339, attributes := #[] }, { accessFlags := 25, nameIndex := 358, descriptorIndex := 339, attributes := #[] }, { accessFlags := 25, nameIndex := 361, descriptorIndex := 339, attributes := #[] }, { accessFlags := 26, nameIndex := 364, descriptorIndex := 339, attributes := #[] }, { accessFlags := 26, nameIndex := 365, descriptorIndex := 339, attributes := #[] }, { accessFlags := 26, nameIndex := 172, descriptorIndex := 173, attributes := #[] }, { accessFlags := 26, nameIndex := 176, descriptorIndex := 173, attributes := #[] }, { accessFlags := 8, nameIndex := 344, descriptorIndex := 339, attributes := #[] }, { accessFlags := 8, nameIndex := 338, descriptorIndex := 339, attributes := #[] }, { accessFlags := 4120, nameIndex := 245, descriptorIndex := 246, attributes := #[] }])
  fields := #[{ name := "E", type := .double, accessFlags := 25, slot := 0, constantValue := 0 }, { name := "PI", type := .double, accessFlags := 25, slot := 1, constantValue := 0 }, { name := "TAU", type := .double, accessFlags := 25, slot := 2, constantValue := 0 }, { name := "DEGREES_TO_RADIANS", type := .double, accessFlags := 26, slot := 3, constantValue := 0 }, { name := "RADIANS_TO_DEGREES", type := .double, accessFlags := 26, slot := 4, constantValue := 0 }, { name := "negativeZeroFloatBits", type := .long, accessFlags := 26, slot := 5, constantValue := 0 }, { name := "negativeZeroDoubleBits", type := .long, accessFlags := 26, slot := 6, constantValue := 0 }, { name := "twoToTheDoubleScaleUp", type := .double, accessFlags := 8, slot := 7, constantValue := 0 }, { name := "twoToTheDoubleScaleDown", type := .double, accessFlags := 8, slot := 8, constantValue := 0 }, { name := "$assertionsDisabled", type := .boolean, accessFlags := 4120, slot := 9, constantValue := 0 }]
  methods := #[k2m0, k2m1, k2m2]
  instanceTypes := #[]
  staticTypes := #[.double, .double, .double, .double, .double, .long, .long, .double, .double, .boolean]
  resolved := Array.replicate 460 none
  statics := none }

def pool3 : Array CpInfo := pool [(1, .methodref 2 3), (0, .class_ 4), (0, .nameAndType 5 6), (0, u "java/lang/Object"), (0, u "<init>"), (0, u "()V"), (0, .fieldref 8 9), (0, .class_ 10), (0, .nameAndType 11 12), (0, u "com/example/spanfold/spanfold/Range"), (0, u "hasFrom"), (0, u "Z"), (0, .fieldref 8 14), (0, .nameAndType 15 16), (0, u "from"), (0, u "J"), (0, .fieldref 8 18), (0, .nameAndType 19 12), (0, u "hasTo"), (0, .fieldref 8 21), (0, .nameAndType 22 16), (0, u "to"), (17, u "(ZJZJ)V"), (12, u "()Z"), (0, u "isEmpty")] 17

def k3c0 : Code := { maxStack := 3, maxLocals := 7, code := prog_12_method_1_code, exceptionTable := #[], attributes := #[] }
def k3m0 : Method := { name := "<init>", desc := "(ZJZJ)V", sig := { parameters := [.boolean, .long, .boolean, .long], returnType := none }, accessFlags := 0, code := some k3c0 }
def k3c1 : Code := { maxStack := 4, maxLocals := 1, code := prog_12_method_7_code, exceptionTable := #[], attributes := #[] }
def k3m1 : Method := { name := "isEmpty", desc := "()Z", sig := { parameters := [], returnType := some .boolean }, accessFlags := 1, code := some k3c1 }
/-- com/example/spanfold/spanfold/Range -/
def k3 : Class := { plain "com/example/spanfold/spanfold/Range" (some 0) with
  accessFlags := 49
  interfaces := #[]
  cf := some (fileOf pool3 8 #[] #[{ accessFlags := 0, nameIndex := 5, descriptorIndex := 40, attributes := #[] }, { accessFlags := 1, nameIndex := 54, descriptorIndex := 53, attributes := #[] }] 49 2 #[] #[{ accessFlags := 18, nameIndex := 11, descriptorIndex := 12, attributes := #[] }, { accessFlags := 18, nameIndex := 15, descriptorIndex := 16, attributes := #[] }, { accessFlags := 18, nameIndex := 19, descriptorIndex := 12, attributes := #[] }, { accessFlags := 18, nameIndex := 22, descriptorIndex := 16, attributes := #[] }])
  fields := #[{ name := "hasFrom", type := .boolean, accessFlags := 18, slot := 0, constantValue := 0 }, { name := "from", type := .long, accessFlags := 18, slot := 1, constantValue := 0 }, { name := "hasTo", type := .boolean, accessFlags := 18, slot := 2, constantValue := 0 }, { name := "to", type := .long, accessFlags := 18, slot := 3, constantValue := 0 }]
  methods := #[k3m0, k3m1]
  instanceTypes := #[.boolean, .long, .boolean, .long]
  staticTypes := #[]
  resolved := Array.replicate 72 none
  statics := none }

def pool4 : Array CpInfo := pool [(1, u "java/lang/Cloneable"), (0, .class_ 1), (0, u "java/lang/Object"), (0, .class_ 3)] 3

/-- java/lang/Cloneable -/
def k4 : Class := { plain "java/lang/Cloneable" (some 0) with
  accessFlags := 1537
  interfaces := #[]
  cf := some (fileOf pool4 2 #[] #[] 1537 4 #[] #[])
  fields := #[]
  methods := #[]
  instanceTypes := #[]
  staticTypes := #[]
  resolved := Array.replicate 8 none
  statics := none }

def pool5 : Array CpInfo := pool [(1, u "java/io/Serializable"), (0, .class_ 1), (0, u "java/lang/Object"), (0, .class_ 3)] 3

/-- java/io/Serializable -/
def k5 : Class := { plain "java/io/Serializable" (some 0) with
  accessFlags := 1537
  interfaces := #[]
  cf := some (fileOf pool5 2 #[] #[] 1537 4 #[] #[])
  fields := #[]
  methods := #[]
  instanceTypes := #[]
  staticTypes := #[]
  resolved := Array.replicate 8 none
  statics := none }

/-- the primitive byte -/
def k6 : Class := { plain "byte" none with kind := .primitive 'B', accessFlags := 0x411 }
/-- [B -/
def k7 : Class := { plain "[B" (some 0) with kind := .array 6 .byte, interfaces := #[4, 5], accessFlags := 1041 }

/-- the primitive int -/
def k8 : Class := { plain "int" none with kind := .primitive 'I', accessFlags := 0x411 }
/-- [I -/
def k9 : Class := { plain "[I" (some 0) with kind := .array 8 .int, interfaces := #[4, 5], accessFlags := 1041 }

def heap : Heap := #[]
def classes : Array Class := #[k0, k1, k2, k3, k4, k5, k6, k7, k8, k9]
def interned : List (Array UInt16 × Addr) := []
def slotsUsed : Nat := 0
def theMethod : MethodId := ⟨1, 2⟩
def args0 : Array Value := #[.int 5, .long 3, .long 1, .long 7]
def aboutOver (below : List Frame) : State where
  vm := { classes := classes, interned := interned.toArray }
  heap := heap
  slotsUsed := slotsUsed
  threads := #[{ frames := .invoking theMethod args0 :: below }]
def below0 : List Frame := [.native { method := ⟨0, 0⟩, args := #[] }]
def about1 : State := aboutOver below0
def p0 : Program := .bare "" "" ""
def e0 : Env := launch0.env 0 0 0
theorem w_frames : about1.frames = Frame.invoking theMethod args0 :: below0 := rfl
set_option maxRecDepth 65536 in
theorem w_args : argsFit about1.vm theMethod args0 = true := by decide +kernel
set_option maxRecDepth 65536 in
theorem w_heap : heapFits about1 = true := by decide +kernel
set_option maxRecDepth 65536 in
theorem w_runnable : about1.curStatus? = some .runnable := by decide +kernel
set_option maxRecDepth 65536 in
theorem w_alone : about1.alone = true := by decide +kernel
set_option maxRecDepth 65536 in
theorem w_named : about1.methodNamed? x = some theMethod := by decide +kernel
set_option maxRecDepth 65536 in
theorem w_hears : about1.hears theMethod below0 = true := by decide +kernel
set_option maxRecDepth 65536 in
theorem w_ripe : about1.ripe theMethod args0 below0 = true := by decide +kernel
theorem w_running : about1.status = .running := rfl
set_option maxRecDepth 65536 in
theorem w_room : about1.hasRoom e0.platform room_1 = true :=
  launch0.hasRoom_least _ room_1 (by decide +kernel) (by decide +kernel) (by decide +kernel) (by decide +kernel) (by decide +kernel) (by decide +kernel)
theorem allAtoms_all (ts : List Jvm.Cond) (a : Array Jvm.Value) (st : Jvm.State) : (allAtoms ts).before a st = ts.all (fun c => c.before a st) := by
  induction ts with
  | nil => rfl
  | cons c t ih =>
    show (Jvm.Cond.and c (allAtoms t)).before a st = _
    rw [Jvm.Cond.before_and, ih, List.all_cons]
def words1 : List Jvm.Cond := Jvm.Cond.code x code maxLocals ret :: tables_1
/-- a 'code' word, met by the world's own term for the bytes: nothing is compared byte by byte -/
theorem code_word {y : MethodName} {bytes : ByteArray} {mx : Nat} {rt : Option FieldType} {a : Array Value} {s : State} {m : MethodId} {meth : Method} {c : Code} (h1 : s.methodNamed? y = some m) (h2 : s.vm.method? m = some meth) (h3 : meth.code = some c) (h4 : c.code = bytes)
    (h5 : (c.maxLocals == mx && c.exceptionTable.isEmpty && decide (c.maxStack ≤ mostOperands) && decide (meth.sig.returnType = rt) && !meth.locks && decide (parseMethodDescriptor y.desc = some meth.sig)) = true) : (Jvm.Cond.code y bytes mx rt).before a s = true := by
  simp only [Bool.and_eq_true, beq_iff_eq, Bool.not_eq_true', decide_eq_true_eq] at h5
  obtain ⟨⟨⟨⟨⟨g1, g2⟩, g3⟩, g4⟩, g5⟩, g6⟩ := h5
  simp [Cond.before, Cond.holds, Cond.value, h1, h2, h3, h4, g1, g2, g3, g4, g5, g6]
def isCode : Jvm.Cond → Bool
  | .code _ _ _ _ => true
  | _ => false
theorem all_split {L : List Jvm.Cond} {P : Jvm.Cond → Bool} (h1 : L.all (fun c => isCode c || P c) = true) (h2 : ∀ c ∈ L.filter isCode, P c = true) : L.all P = true := by
  refine List.all_eq_true.mpr fun c hc => ?_
  have h := List.all_eq_true.mp h1 c hc
  rcases Bool.eq_false_or_eq_true (isCode c) with hi | hi
  · exact h2 c (List.mem_filter.mpr ⟨hc, hi⟩)
  · simpa [hi] using h
set_option maxRecDepth 65536 in
theorem w_c0 : (Jvm.Cond.code x code maxLocals ret).before args0 about1 = true := code_word (m := ⟨1, 2⟩) (meth := k1m2) (c := k1c2) (by decide +kernel) rfl rfl rfl (by decide +kernel)
set_option maxRecDepth 65536 in
theorem w_c1 : (Jvm.Cond.code ({ cls := "java/lang/Math", name := "min", desc := "(JJ)J" } : Jvm.MethodName) jdk_29_method_70_code (4 : Nat) (Option.some Jvm.ClassFile.FieldType.long)).before args0 about1 = true := code_word (m := ⟨2, 2⟩) (meth := k2m2) (c := k2c2) (by decide +kernel) rfl rfl rfl (by decide +kernel)
set_option maxRecDepth 65536 in
theorem w_c2 : (Jvm.Cond.code ({ cls := "java/lang/Math", name := "max", desc := "(JJ)J" } : Jvm.MethodName) jdk_29_method_66_code (4 : Nat) (Option.some Jvm.ClassFile.FieldType.long)).before args0 about1 = true := code_word (m := ⟨2, 1⟩) (meth := k2m1) (c := k2c1) (by decide +kernel) rfl rfl rfl (by decide +kernel)
set_option maxRecDepth 65536 in
theorem w_c3 : (Jvm.Cond.code ({ cls := "com/example/spanfold/spanfold/Range", name := "<init>", desc := "(ZJZJ)V" } : Jvm.MethodName) prog_12_method_1_code (7 : Nat) (Option.none : Option Jvm.ClassFile.FieldType)).before args0 about1 = true := code_word (m := ⟨3, 0⟩) (meth := k3m0) (c := k3c0) (by decide +kernel) rfl rfl rfl (by decide +kernel)
set_option maxRecDepth 65536 in
theorem w_c4 : (Jvm.Cond.code ({ cls := "java/lang/Object", name := "<init>", desc := "()V" } : Jvm.MethodName) object_method_1_code (1 : Nat) (Option.none : Option Jvm.ClassFile.FieldType)).before args0 about1 = true := code_word (m := ⟨0, 0⟩) (meth := k0m0) (c := k0c0) (by decide +kernel) rfl rfl rfl (by decide +kernel)
set_option maxRecDepth 65536 in
theorem w_c5 : (Jvm.Cond.code ({ cls := "com/example/spanfold/spanfold/Range", name := "isEmpty", desc := "()Z" } : Jvm.MethodName) prog_12_method_7_code (1 : Nat) (Option.some Jvm.ClassFile.FieldType.boolean)).before args0 about1 = true := code_word (m := ⟨3, 1⟩) (meth := k3m1) (c := k3c1) (by decide +kernel) rfl rfl rfl (by decide +kernel)
set_option maxRecDepth 65536 in
theorem w_c6 : (Jvm.Cond.code ({ cls := "com/example/spanfold/spanfold/RangeIsEmptyPinLaw", name := "holds", desc := "(ZJZJJ)Z" } : Jvm.MethodName) method_2_code (8 : Nat) (Option.some Jvm.ClassFile.FieldType.boolean)).before args0 about1 = true := code_word (m := ⟨1, 1⟩) (meth := k1m1) (c := k1c1) (by decide +kernel) rfl rfl rfl (by decide +kernel)
def codes1 : List Jvm.Cond := [Jvm.Cond.code x code maxLocals ret, Jvm.Cond.code ({ cls := "java/lang/Math", name := "min", desc := "(JJ)J" } : Jvm.MethodName) jdk_29_method_70_code (4 : Nat) (Option.some Jvm.ClassFile.FieldType.long), Jvm.Cond.code ({ cls := "java/lang/Math", name := "max", desc := "(JJ)J" } : Jvm.MethodName) jdk_29_method_66_code (4 : Nat) (Option.some Jvm.ClassFile.FieldType.long), Jvm.Cond.code ({ cls := "com/example/spanfold/spanfold/Range", name := "<init>", desc := "(ZJZJ)V" } : Jvm.MethodName) prog_12_method_1_code (7 : Nat) (Option.none : Option Jvm.ClassFile.FieldType), Jvm.Cond.code ({ cls := "java/lang/Object", name := "<init>", desc := "()V" } : Jvm.MethodName) object_method_1_code (1 : Nat) (Option.none : Option Jvm.ClassFile.FieldType), Jvm.Cond.code ({ cls := "com/example/spanfold/spanfold/Range", name := "isEmpty", desc := "()Z" } : Jvm.MethodName) prog_12_method_7_code (1 : Nat) (Option.some Jvm.ClassFile.FieldType.boolean), Jvm.Cond.code ({ cls := "com/example/spanfold/spanfold/RangeIsEmptyPinLaw", name := "holds", desc := "(ZJZJJ)Z" } : Jvm.MethodName) method_2_code (8 : Nat) (Option.some Jvm.ClassFile.FieldType.boolean)]
set_option maxRecDepth 65536 in
theorem codes_eq : words1.filter isCode = codes1 := rfl
theorem w_codes : ∀ c ∈ words1.filter isCode, c.before args0 about1 = true := by
  rw [codes_eq]
  intro c hc
  simp only [codes1, List.mem_cons, List.not_mem_nil, or_false] at hc
  rcases hc with rfl | rfl | rfl | rfl | rfl | rfl | rfl
  · exact w_c0
  · exact w_c1
  · exact w_c2
  · exact w_c3
  · exact w_c4
  · exact w_c5
  · exact w_c6
set_option maxRecDepth 65536 in
theorem w_t1 : (words1.take 24).all (fun c => isCode c || c.before args0 about1) = true := by decide +kernel
set_option maxRecDepth 65536 in
theorem w_t2 : (words1.drop 24).all (fun c => isCode c || c.before args0 about1) = true := by decide +kernel
theorem w_tables : (allAtoms (Jvm.Cond.code x code maxLocals ret :: tables_1)).before args0 about1 = true := by
  rw [allAtoms_all]
  show words1.all (fun c => c.before args0 about1) = true
  refine all_split ?_ w_codes
  rw [← List.take_append_drop 24 words1, List.all_append, w_t1, w_t2]
  rfl
set_option maxRecDepth 65536 in
theorem w_case : (Jvm.Cond.and given_1 narrow_1).before args0 about1 = true := by decide +kernel
theorem w_applies : (headSpec (Jvm.Cond.code x code maxLocals ret :: tables_1) room_1).applies x e0.platform about1 = true :=
  (Spec.applies_iff w_frames).mpr ⟨w_running, w_runnable, w_alone, w_named, w_hears, w_ripe, w_room, w_tables⟩
theorem atStart : AtStart classFile x code maxLocals ret World_1 tables_1 room_1 Calls_1 rest_1 Pre_1 launch0 p0 e0 about1 theMethod args0 below0 :=
  ⟨lists_1, trivial, launch0.admits_env _ _ _, launch0.least_env, fairChoices_fair.cas, fairChoices_fair.clock, w_frames, w_args, w_heap, w_applies, trivial, trivial, w_case⟩
end start1
theorem witness_1 : WitnessClaimed_1 := ⟨start1.p0, start1.e0, start1.about1, start1.theMethod, start1.args0, start1.below0, start1.atStart⟩
end Jvm.Pilot.@@N@@
