import JvmDerived
import JvmDerived.Pilot.@@N@@Statement
import JvmDerived.Pilot.@@N@@Code
set_option linter.unusedVariables false
set_option linter.unusedSimpArgs false
namespace Jvm.Pilot.@@N@@
open Jvm Jvm.ClassFile Sem Op Lib Jvm.Free Jvm.Stand Jvm.LawKit Jvm.RoadKit Bundle Jvm.Pilot.@@N@@.Jvm.D
theorem own_lt32 {a b : Int32} : a < b ↔ a.toInt < b.toInt := Int32.lt_iff_toInt_lt
theorem own_eq32 {a b : Int32} : a = b ↔ a.toInt = b.toInt := Int32.toInt_inj.symm
theorem own_lt64 {a b : Int64} : a < b ↔ a.toInt < b.toInt := Int64.lt_iff_toInt_lt
theorem own_eq64 {a b : Int64} : a = b ↔ a.toInt = b.toInt := Int64.toInt_inj.symm
theorem own_tri64 (a b : Int64) : (a < b ∧ ¬ b < a ∧ ¬ b = a ∧ ¬ a = b) ∨ (b < a ∧ ¬ a < b ∧ ¬ a = b ∧ ¬ b = a) ∨ a = b := by
  rw [own_lt64, own_lt64, own_eq64, own_eq64]; omega
theorem own_tri32 (a b : Int32) : (a < b ∧ ¬ b < a ∧ ¬ b = a ∧ ¬ a = b) ∨ (b < a ∧ ¬ a < b ∧ ¬ a = b ∧ ¬ b = a) ∨ a = b := by
  rw [own_lt32, own_lt32, own_eq32, own_eq32]; omega
theorem d1_0 : decode method_2_code 0 = .ok (.iload_n 0, 1) := by decide +kernel
theorem d1_1 : decode method_2_code 1 = .ok (.iconst 1, 1) := by decide +kernel
theorem d1_2 : decode method_2_code 2 = .ok (.if_icmp .ne 5, 3) := by decide +kernel
theorem d1_5 : decode method_2_code 5 = .ok (.lload_n 1, 1) := by decide +kernel
theorem d1_7 : decode method_2_code 7 = .ok (.iload_n 0, 1) := by decide +kernel
theorem d1_8 : decode method_2_code 8 = .ok (.iconst 2, 1) := by decide +kernel
theorem d1_9 : decode method_2_code 9 = .ok (.if_icmp .ne 7, 3) := by decide +kernel
theorem d1_12 : decode method_2_code 12 = .ok (.lload_n 1, 1) := by decide +kernel
theorem d1_13 : decode method_2_code 13 = .ok (.lconst 1, 1) := by decide +kernel
theorem d1_14 : decode method_2_code 14 = .ok (.lsub, 1) := by decide +kernel
theorem d1_16 : decode method_2_code 16 = .ok (.iload_n 0, 1) := by decide +kernel
theorem d1_17 : decode method_2_code 17 = .ok (.iconst 3, 1) := by decide +kernel
theorem d1_18 : decode method_2_code 18 = .ok (.if_icmp .ne 7, 3) := by decide +kernel
theorem d1_21 : decode method_2_code 21 = .ok (.lload_n 1, 1) := by decide +kernel
theorem d1_22 : decode method_2_code 22 = .ok (.lconst 1, 1) := by decide +kernel
theorem d1_23 : decode method_2_code 23 = .ok (.ladd, 1) := by decide +kernel
theorem d1_25 : decode method_2_code 25 = .ok (.lload_n 3, 1) := by decide +kernel
def f_rm1 (p0 : Int32) (q1 : Int64) (q2 : Int64) : Int64 := (if p0 = (1 : Int32) then q1 else (if p0 = (2 : Int32) then (q1 - (1 : Int64)) else (if p0 = (3 : Int32) then (q1 + (1 : Int64)) else q2)))
def Q_rm1 (Z : State) (p0 : Int32) (q1 : Int64) (q2 : Int64) (h0 : Heap) (n0 : Nat) (v : Option Value) (h : Heap) (L : List Loc) : Prop := v = some (.long (f_rm1 p0 q1 q2)) ∧ Fr n0 L ∧ h = h0
theorem pn_1 : plainName "com/example/modest_log/modestlog/log/TimeIndexEntryFollowsPinLaw" = true := by first | (simp [plainName, overriddenIn]; done) | decide +kernel
theorem ef_1 (m : MethodId) (x0 : Int32) (x1 : Int64) (x2 : Int64) : entryFrame m #[(.int x0), (.long x1), (.long x2)] 5 = mkF m 0 #[.val (.int x0), .val (.long x1), .second, .val (.long x2), .second] [] := by first | (simp [entryFrame, mkF, argsToLocals, Value.category]; done) | rfl
theorem d1_6 : decode method_2_code 6 = .ok (.lreturn, 1) := by decide +kernel
theorem d1_15 : decode method_2_code 15 = .ok (.lreturn, 1) := by decide +kernel
theorem d1_24 : decode method_2_code 24 = .ok (.lreturn, 1) := by decide +kernel
theorem d1_26 : decode method_2_code 26 = .ok (.lreturn, 1) := by decide +kernel
set_option maxRecDepth 65536 in
set_option maxHeartbeats 40000000 in
theorem rm1 (l : Launch) (Z : State) (a0 : Array Value) (hw : ∀ d ∈ tables_1, d.before a0 Z = true) (ws : List Jvm.Cond) (p0 : Int32) (q1 : Int64) (q2 : Int64) (h0 : Heap) (n0 : Nat) (Z0 : n0 ≤ h0.size) :
    MetFree l (⟨"com/example/modest_log/modestlog/log/TimeIndexEntryFollowsPinLaw", "pickLong", "(IJJ)J"⟩ : MethodName) (head1 (Jvm.Cond.code (⟨"com/example/modest_log/modestlog/log/TimeIndexEntryFollowsPinLaw", "pickLong", "(IJJ)J"⟩ : MethodName) method_2_code 5 (some .long) :: ws) ({ frames := 0, cells := 0, slots := 0, locals := 0 } : Room)) (fun a U => a = #[(.int p0), (.long q1), (.long q2)] ∧ Z.Warmed39 U.vm ∧ U.heap = h0) (fun _ _ _ _ _ => True) (fun _ U o U' => ∃ v L, o = .returned v ∧ Q_rm1 Z p0 q1 q2 h0 n0 v U'.heap L ∧ FrameEnd U o U' L ({ frames := 0, cells := 0, slots := 0, locals := 0 } : Room).cells ({ frames := 0, cells := 0, slots := 0, locals := 0 } : Room).slots) := by
  refine MetFree.of_bodySF (plainFor_of_name pn_1) hisR ?_
  intro p e s m args below meth c s₁ Bd hml0 hP hK
  obtain ⟨rfl, hZ, hh⟩ := hP
  have hx := Bd.exec
  have hby := Bd.bytes
  have hml : c.maxLocals = 5 := hml0
  have hown : s.vm.findClass "com/example/modest_log/modestlog/log/TimeIndexEntryFollowsPinLaw" = some m.cls := findClass_of_methodNamed Bd.named
  have hnm := (name_of_methodNamed Bd.named Bd.method).1
  have X0 : Stand p l e ({ frames := 0, cells := 0, slots := 0, locals := 0 } : Room) s m #[(.int p0), (.long q1), (.long q2)] below meth c s₁ [] 0 0 := Stand.of_body Bd
  have e0 : s₁.heap = h0 := by rw [← hh, Bd.state]; rfl
  have N0 := Fr.nil n0
  have Kp0 : Keep h0 h0 [] := Keep.refl _ _
  have K0 : Steps p.tables e below (s₁.setTop (entryFrame m #[(.int p0), (.long q1), (.long q2)] 5)) (s₁.setTop (mkF m 0 #[.val (.int p0), .val (.long q1), .second, .val (.long q2), .second] [])) := castTop (ef_1 m p0 q1 q2) (Steps.refl _)
  have K1 : Steps p.tables e below _ (s₁.setTop (mkF m 2 #[.val (.int p0), .val (.long q1), .second, .val (.long q2), .second] [(.int (1 : Int32)), (.int p0)])) := K0.trans (by
    show Steps p.tables e below (s₁.setTop (mkF m 0 #[.val (.int p0), .val (.long q1), .second, .val (.long q2), .second] [])) _
    refine XS.iloadN X0.here hx rfl (hb hby d1_0) rfl ?_
    show Steps p.tables e below (s₁.setTop (mkF m 1 #[.val (.int p0), .val (.long q1), .second, .val (.long q2), .second] [(.int p0)])) _
    refine XS.iconst X0.here hx rfl (hb hby d1_1) ?_
    show Steps p.tables e below (s₁.setTop (mkF m 2 #[.val (.int p0), .val (.long q1), .second, .val (.long q2), .second] [(.int (1 : Int32)), (.int p0)])) _
    exact Steps.refl _)
  by_cases hc2 : p0 = (1 : Int32)
  · have K2 : Steps p.tables e below _ (s₁.setTop (mkF m 6 #[.val (.int p0), .val (.long q1), .second, .val (.long q2), .second] [(.long q1)])) := K1.trans (by
      show Steps p.tables e below (s₁.setTop (mkF m 2 #[.val (.int p0), .val (.long q1), .second, .val (.long q2), .second] [(.int (1 : Int32)), (.int p0)])) _
      refine XS.icmpNo X0.here hx rfl (hb hby d1_2) rfl (teq hc2).2 ?_
      show Steps p.tables e below (s₁.setTop (mkF m 5 #[.val (.int p0), .val (.long q1), .second, .val (.long q2), .second] [])) _
      refine XS.lloadN X0.here hx rfl (hb hby d1_5) rfl ?_
      show Steps p.tables e below (s₁.setTop (mkF m 6 #[.val (.int p0), .val (.long q1), .second, .val (.long q2), .second] [(.long q1)])) _
      exact Steps.refl _)
    obtain ⟨fs, hr, hrun, hended, hW, hsame⟩ := X0.leave (v := some (.long q1)) (fun h => by rw [Bd.returns] at h; cases h)
    refine ⟨_, _, K2.trans (retOut X0 hx Bd.returns rfl (Or.inr (Or.inl ⟨rfl, rfl, _, rfl⟩)) (hb hby d1_6) hr), hrun, hended, _, _, rfl, ?_, ⟨_, rfl⟩, hW, hsame.mono (by decide) (by first | decide | omega)⟩
    show Q_rm1 Z p0 q1 q2 h0 n0 _ s₁.heap _
    rw [e0]
    exact ⟨(by unfold f_rm1; rw [if_pos hc2]), N0, rfl⟩
  · have K3 : Steps p.tables e below _ (s₁.setTop (mkF m 9 #[.val (.int p0), .val (.long q1), .second, .val (.long q2), .second] [(.int (2 : Int32)), (.int p0)])) := K1.trans (by
      show Steps p.tables e below (s₁.setTop (mkF m 2 #[.val (.int p0), .val (.long q1), .second, .val (.long q2), .second] [(.int (1 : Int32)), (.int p0)])) _
      refine XS.icmpYes X0.here hx rfl (pc0 := 2) (pc' := 7) rfl (hb hby d1_2) rfl (feq hc2).2 (by decide) (by decide) ?_
      show Steps p.tables e below (s₁.setTop (mkF m 7 #[.val (.int p0), .val (.long q1), .second, .val (.long q2), .second] [])) _
      refine XS.iloadN X0.here hx rfl (hb hby d1_7) rfl ?_
      show Steps p.tables e below (s₁.setTop (mkF m 8 #[.val (.int p0), .val (.long q1), .second, .val (.long q2), .second] [(.int p0)])) _
      refine XS.iconst X0.here hx rfl (hb hby d1_8) ?_
      show Steps p.tables e below (s₁.setTop (mkF m 9 #[.val (.int p0), .val (.long q1), .second, .val (.long q2), .second] [(.int (2 : Int32)), (.int p0)])) _
      exact Steps.refl _)
    by_cases hc9 : p0 = (2 : Int32)
    · have K4 : Steps p.tables e below _ (s₁.setTop (mkF m 15 #[.val (.int p0), .val (.long q1), .second, .val (.long q2), .second] [(.long (q1 - (1 : Int64)))])) := K3.trans (by
        show Steps p.tables e below (s₁.setTop (mkF m 9 #[.val (.int p0), .val (.long q1), .second, .val (.long q2), .second] [(.int (2 : Int32)), (.int p0)])) _
        refine XS.icmpNo X0.here hx rfl (hb hby d1_9) rfl (teq hc9).2 ?_
        show Steps p.tables e below (s₁.setTop (mkF m 12 #[.val (.int p0), .val (.long q1), .second, .val (.long q2), .second] [])) _
        refine XS.lloadN X0.here hx rfl (hb hby d1_12) rfl ?_
        show Steps p.tables e below (s₁.setTop (mkF m 13 #[.val (.int p0), .val (.long q1), .second, .val (.long q2), .second] [(.long q1)])) _
        refine XS.lconst X0.here hx rfl (hb hby d1_13) ?_
        show Steps p.tables e below (s₁.setTop (mkF m 14 #[.val (.int p0), .val (.long q1), .second, .val (.long q2), .second] [(.long (1 : Int64)), (.long q1)])) _
        refine XS.lsub X0.here hx rfl (hb hby d1_14) rfl ?_
        show Steps p.tables e below (s₁.setTop (mkF m 15 #[.val (.int p0), .val (.long q1), .second, .val (.long q2), .second] [(.long (q1 - (1 : Int64)))])) _
        exact Steps.refl _)
      obtain ⟨fs, hr, hrun, hended, hW, hsame⟩ := X0.leave (v := some (.long (q1 - (1 : Int64)))) (fun h => by rw [Bd.returns] at h; cases h)
      refine ⟨_, _, K4.trans (retOut X0 hx Bd.returns rfl (Or.inr (Or.inl ⟨rfl, rfl, _, rfl⟩)) (hb hby d1_15) hr), hrun, hended, _, _, rfl, ?_, ⟨_, rfl⟩, hW, hsame.mono (by decide) (by first | decide | omega)⟩
      show Q_rm1 Z p0 q1 q2 h0 n0 _ s₁.heap _
      rw [e0]
      exact ⟨(by unfold f_rm1; rw [if_neg hc2, if_pos hc9]), N0, rfl⟩
    · have K5 : Steps p.tables e below _ (s₁.setTop (mkF m 18 #[.val (.int p0), .val (.long q1), .second, .val (.long q2), .second] [(.int (3 : Int32)), (.int p0)])) := K3.trans (by
        show Steps p.tables e below (s₁.setTop (mkF m 9 #[.val (.int p0), .val (.long q1), .second, .val (.long q2), .second] [(.int (2 : Int32)), (.int p0)])) _
        refine XS.icmpYes X0.here hx rfl (pc0 := 9) (pc' := 16) rfl (hb hby d1_9) rfl (feq hc9).2 (by decide) (by decide) ?_
        show Steps p.tables e below (s₁.setTop (mkF m 16 #[.val (.int p0), .val (.long q1), .second, .val (.long q2), .second] [])) _
        refine XS.iloadN X0.here hx rfl (hb hby d1_16) rfl ?_
        show Steps p.tables e below (s₁.setTop (mkF m 17 #[.val (.int p0), .val (.long q1), .second, .val (.long q2), .second] [(.int p0)])) _
        refine XS.iconst X0.here hx rfl (hb hby d1_17) ?_
        show Steps p.tables e below (s₁.setTop (mkF m 18 #[.val (.int p0), .val (.long q1), .second, .val (.long q2), .second] [(.int (3 : Int32)), (.int p0)])) _
        exact Steps.refl _)
      by_cases hc18 : p0 = (3 : Int32)
      · have K6 : Steps p.tables e below _ (s₁.setTop (mkF m 24 #[.val (.int p0), .val (.long q1), .second, .val (.long q2), .second] [(.long (q1 + (1 : Int64)))])) := K5.trans (by
          show Steps p.tables e below (s₁.setTop (mkF m 18 #[.val (.int p0), .val (.long q1), .second, .val (.long q2), .second] [(.int (3 : Int32)), (.int p0)])) _
          refine XS.icmpNo X0.here hx rfl (hb hby d1_18) rfl (teq hc18).2 ?_
          show Steps p.tables e below (s₁.setTop (mkF m 21 #[.val (.int p0), .val (.long q1), .second, .val (.long q2), .second] [])) _
          refine XS.lloadN X0.here hx rfl (hb hby d1_21) rfl ?_
          show Steps p.tables e below (s₁.setTop (mkF m 22 #[.val (.int p0), .val (.long q1), .second, .val (.long q2), .second] [(.long q1)])) _
          refine XS.lconst X0.here hx rfl (hb hby d1_22) ?_
          show Steps p.tables e below (s₁.setTop (mkF m 23 #[.val (.int p0), .val (.long q1), .second, .val (.long q2), .second] [(.long (1 : Int64)), (.long q1)])) _
          refine XS.ladd X0.here hx rfl (hb hby d1_23) rfl ?_
          show Steps p.tables e below (s₁.setTop (mkF m 24 #[.val (.int p0), .val (.long q1), .second, .val (.long q2), .second] [(.long (q1 + (1 : Int64)))])) _
          exact Steps.refl _)
        obtain ⟨fs, hr, hrun, hended, hW, hsame⟩ := X0.leave (v := some (.long (q1 + (1 : Int64)))) (fun h => by rw [Bd.returns] at h; cases h)
        refine ⟨_, _, K6.trans (retOut X0 hx Bd.returns rfl (Or.inr (Or.inl ⟨rfl, rfl, _, rfl⟩)) (hb hby d1_24) hr), hrun, hended, _, _, rfl, ?_, ⟨_, rfl⟩, hW, hsame.mono (by decide) (by first | decide | omega)⟩
        show Q_rm1 Z p0 q1 q2 h0 n0 _ s₁.heap _
        rw [e0]
        exact ⟨(by unfold f_rm1; rw [if_neg hc2, if_neg hc9, if_pos hc18]), N0, rfl⟩
      · have K7 : Steps p.tables e below _ (s₁.setTop (mkF m 26 #[.val (.int p0), .val (.long q1), .second, .val (.long q2), .second] [(.long q2)])) := K5.trans (by
          show Steps p.tables e below (s₁.setTop (mkF m 18 #[.val (.int p0), .val (.long q1), .second, .val (.long q2), .second] [(.int (3 : Int32)), (.int p0)])) _
          refine XS.icmpYes X0.here hx rfl (pc0 := 18) (pc' := 25) rfl (hb hby d1_18) rfl (feq hc18).2 (by decide) (by decide) ?_
          show Steps p.tables e below (s₁.setTop (mkF m 25 #[.val (.int p0), .val (.long q1), .second, .val (.long q2), .second] [])) _
          refine XS.lloadN X0.here hx rfl (hb hby d1_25) rfl ?_
          show Steps p.tables e below (s₁.setTop (mkF m 26 #[.val (.int p0), .val (.long q1), .second, .val (.long q2), .second] [(.long q2)])) _
          exact Steps.refl _)
        obtain ⟨fs, hr, hrun, hended, hW, hsame⟩ := X0.leave (v := some (.long q2)) (fun h => by rw [Bd.returns] at h; cases h)
        refine ⟨_, _, K7.trans (retOut X0 hx Bd.returns rfl (Or.inr (Or.inl ⟨rfl, rfl, _, rfl⟩)) (hb hby d1_26) hr), hrun, hended, _, _, rfl, ?_, ⟨_, rfl⟩, hW, hsame.mono (by decide) (by first | decide | omega)⟩
        show Q_rm1 Z p0 q1 q2 h0 n0 _ s₁.heap _
        rw [e0]
        exact ⟨(by unfold f_rm1; rw [if_neg hc2, if_neg hc9, if_neg hc18]), N0, rfl⟩
theorem d2_0 : decode method_3_code 0 = .ok (.iload_n 0, 1) := by decide +kernel
theorem d2_1 : decode method_3_code 1 = .ok (.iconst 1, 1) := by decide +kernel
theorem d2_2 : decode method_3_code 2 = .ok (.if_icmp .ne 5, 3) := by decide +kernel
theorem d2_5 : decode method_3_code 5 = .ok (.iload_n 1, 1) := by decide +kernel
theorem d2_7 : decode method_3_code 7 = .ok (.iload_n 0, 1) := by decide +kernel
theorem d2_8 : decode method_3_code 8 = .ok (.iconst 2, 1) := by decide +kernel
theorem d2_9 : decode method_3_code 9 = .ok (.if_icmp .ne 7, 3) := by decide +kernel
theorem d2_12 : decode method_3_code 12 = .ok (.iload_n 1, 1) := by decide +kernel
theorem d2_13 : decode method_3_code 13 = .ok (.iconst 1, 1) := by decide +kernel
theorem d2_14 : decode method_3_code 14 = .ok (.isub, 1) := by decide +kernel
theorem d2_16 : decode method_3_code 16 = .ok (.iload_n 0, 1) := by decide +kernel
theorem d2_17 : decode method_3_code 17 = .ok (.iconst 3, 1) := by decide +kernel
theorem d2_18 : decode method_3_code 18 = .ok (.if_icmp .ne 7, 3) := by decide +kernel
theorem d2_21 : decode method_3_code 21 = .ok (.iload_n 1, 1) := by decide +kernel
theorem d2_22 : decode method_3_code 22 = .ok (.iconst 1, 1) := by decide +kernel
theorem d2_23 : decode method_3_code 23 = .ok (.iadd, 1) := by decide +kernel
theorem d2_25 : decode method_3_code 25 = .ok (.iload_n 2, 1) := by decide +kernel
def f_rm2 (p0 : Int32) (p1 : Int32) (p2 : Int32) : Int32 := (if p0 = (1 : Int32) then p1 else (if p0 = (2 : Int32) then (p1 - (1 : Int32)) else (if p0 = (3 : Int32) then (p1 + (1 : Int32)) else p2)))
def Q_rm2 (Z : State) (p0 : Int32) (p1 : Int32) (p2 : Int32) (h0 : Heap) (n0 : Nat) (v : Option Value) (h : Heap) (L : List Loc) : Prop := v = some (.int (f_rm2 p0 p1 p2)) ∧ Fr n0 L ∧ h = h0
theorem pn_2 : plainName "com/example/modest_log/modestlog/log/TimeIndexEntryFollowsPinLaw" = true := by first | (simp [plainName, overriddenIn]; done) | decide +kernel
theorem ef_2 (m : MethodId) (x0 : Int32) (x1 : Int32) (x2 : Int32) : entryFrame m #[(.int x0), (.int x1), (.int x2)] 3 = mkF m 0 #[.val (.int x0), .val (.int x1), .val (.int x2)] [] := by first | (simp [entryFrame, mkF, argsToLocals, Value.category]; done) | rfl
theorem d2_6 : decode method_3_code 6 = .ok (.ireturn, 1) := by decide +kernel
theorem d2_15 : decode method_3_code 15 = .ok (.ireturn, 1) := by decide +kernel
theorem d2_24 : decode method_3_code 24 = .ok (.ireturn, 1) := by decide +kernel
theorem d2_26 : decode method_3_code 26 = .ok (.ireturn, 1) := by decide +kernel
set_option maxRecDepth 65536 in
set_option maxHeartbeats 40000000 in
theorem rm2 (l : Launch) (Z : State) (a0 : Array Value) (hw : ∀ d ∈ tables_1, d.before a0 Z = true) (ws : List Jvm.Cond) (p0 : Int32) (p1 : Int32) (p2 : Int32) (h0 : Heap) (n0 : Nat) (Z0 : n0 ≤ h0.size) :
    MetFree l (⟨"com/example/modest_log/modestlog/log/TimeIndexEntryFollowsPinLaw", "pickInt", "(III)I"⟩ : MethodName) (head1 (Jvm.Cond.code (⟨"com/example/modest_log/modestlog/log/TimeIndexEntryFollowsPinLaw", "pickInt", "(III)I"⟩ : MethodName) method_3_code 3 (some .int) :: ws) ({ frames := 0, cells := 0, slots := 0, locals := 0 } : Room)) (fun a U => a = #[(.int p0), (.int p1), (.int p2)] ∧ Z.Warmed39 U.vm ∧ U.heap = h0) (fun _ _ _ _ _ => True) (fun _ U o U' => ∃ v L, o = .returned v ∧ Q_rm2 Z p0 p1 p2 h0 n0 v U'.heap L ∧ FrameEnd U o U' L ({ frames := 0, cells := 0, slots := 0, locals := 0 } : Room).cells ({ frames := 0, cells := 0, slots := 0, locals := 0 } : Room).slots) := by
  refine MetFree.of_bodySF (plainFor_of_name pn_2) hisR ?_
  intro p e s m args below meth c s₁ Bd hml0 hP hK
  obtain ⟨rfl, hZ, hh⟩ := hP
  have hx := Bd.exec
  have hby := Bd.bytes
  have hml : c.maxLocals = 3 := hml0
  have hown : s.vm.findClass "com/example/modest_log/modestlog/log/TimeIndexEntryFollowsPinLaw" = some m.cls := findClass_of_methodNamed Bd.named
  have hnm := (name_of_methodNamed Bd.named Bd.method).1
  have X0 : Stand p l e ({ frames := 0, cells := 0, slots := 0, locals := 0 } : Room) s m #[(.int p0), (.int p1), (.int p2)] below meth c s₁ [] 0 0 := Stand.of_body Bd
  have e0 : s₁.heap = h0 := by rw [← hh, Bd.state]; rfl
  have N0 := Fr.nil n0
  have Kp0 : Keep h0 h0 [] := Keep.refl _ _
  have K0 : Steps p.tables e below (s₁.setTop (entryFrame m #[(.int p0), (.int p1), (.int p2)] 3)) (s₁.setTop (mkF m 0 #[.val (.int p0), .val (.int p1), .val (.int p2)] [])) := castTop (ef_2 m p0 p1 p2) (Steps.refl _)
  have K1 : Steps p.tables e below _ (s₁.setTop (mkF m 2 #[.val (.int p0), .val (.int p1), .val (.int p2)] [(.int (1 : Int32)), (.int p0)])) := K0.trans (by
    show Steps p.tables e below (s₁.setTop (mkF m 0 #[.val (.int p0), .val (.int p1), .val (.int p2)] [])) _
    refine XS.iloadN X0.here hx rfl (hb hby d2_0) rfl ?_
    show Steps p.tables e below (s₁.setTop (mkF m 1 #[.val (.int p0), .val (.int p1), .val (.int p2)] [(.int p0)])) _
    refine XS.iconst X0.here hx rfl (hb hby d2_1) ?_
    show Steps p.tables e below (s₁.setTop (mkF m 2 #[.val (.int p0), .val (.int p1), .val (.int p2)] [(.int (1 : Int32)), (.int p0)])) _
    exact Steps.refl _)
  by_cases hc2 : p0 = (1 : Int32)
  · have K2 : Steps p.tables e below _ (s₁.setTop (mkF m 6 #[.val (.int p0), .val (.int p1), .val (.int p2)] [(.int p1)])) := K1.trans (by
      show Steps p.tables e below (s₁.setTop (mkF m 2 #[.val (.int p0), .val (.int p1), .val (.int p2)] [(.int (1 : Int32)), (.int p0)])) _
      refine XS.icmpNo X0.here hx rfl (hb hby d2_2) rfl (teq hc2).2 ?_
      show Steps p.tables e below (s₁.setTop (mkF m 5 #[.val (.int p0), .val (.int p1), .val (.int p2)] [])) _
      refine XS.iloadN X0.here hx rfl (hb hby d2_5) rfl ?_
      show Steps p.tables e below (s₁.setTop (mkF m 6 #[.val (.int p0), .val (.int p1), .val (.int p2)] [(.int p1)])) _
      exact Steps.refl _)
    obtain ⟨fs, hr, hrun, hended, hW, hsame⟩ := X0.leave (v := some (.int p1)) (fun h => by rw [Bd.returns] at h; cases h)
    refine ⟨_, _, K2.trans (retOut X0 hx Bd.returns rfl (Or.inl ⟨rfl, Or.inl rfl, _, rfl⟩) (hb hby d2_6) hr), hrun, hended, _, _, rfl, ?_, ⟨_, rfl⟩, hW, hsame.mono (by decide) (by first | decide | omega)⟩
    show Q_rm2 Z p0 p1 p2 h0 n0 _ s₁.heap _
    rw [e0]
    exact ⟨(by unfold f_rm2; rw [if_pos hc2]), N0, rfl⟩
  · have K3 : Steps p.tables e below _ (s₁.setTop (mkF m 9 #[.val (.int p0), .val (.int p1), .val (.int p2)] [(.int (2 : Int32)), (.int p0)])) := K1.trans (by
      show Steps p.tables e below (s₁.setTop (mkF m 2 #[.val (.int p0), .val (.int p1), .val (.int p2)] [(.int (1 : Int32)), (.int p0)])) _
      refine XS.icmpYes X0.here hx rfl (pc0 := 2) (pc' := 7) rfl (hb hby d2_2) rfl (feq hc2).2 (by decide) (by decide) ?_
      show Steps p.tables e below (s₁.setTop (mkF m 7 #[.val (.int p0), .val (.int p1), .val (.int p2)] [])) _
      refine XS.iloadN X0.here hx rfl (hb hby d2_7) rfl ?_
      show Steps p.tables e below (s₁.setTop (mkF m 8 #[.val (.int p0), .val (.int p1), .val (.int p2)] [(.int p0)])) _
      refine XS.iconst X0.here hx rfl (hb hby d2_8) ?_
      show Steps p.tables e below (s₁.setTop (mkF m 9 #[.val (.int p0), .val (.int p1), .val (.int p2)] [(.int (2 : Int32)), (.int p0)])) _
      exact Steps.refl _)
    by_cases hc9 : p0 = (2 : Int32)
    · have K4 : Steps p.tables e below _ (s₁.setTop (mkF m 15 #[.val (.int p0), .val (.int p1), .val (.int p2)] [(.int (p1 - (1 : Int32)))])) := K3.trans (by
        show Steps p.tables e below (s₁.setTop (mkF m 9 #[.val (.int p0), .val (.int p1), .val (.int p2)] [(.int (2 : Int32)), (.int p0)])) _
        refine XS.icmpNo X0.here hx rfl (hb hby d2_9) rfl (teq hc9).2 ?_
        show Steps p.tables e below (s₁.setTop (mkF m 12 #[.val (.int p0), .val (.int p1), .val (.int p2)] [])) _
        refine XS.iloadN X0.here hx rfl (hb hby d2_12) rfl ?_
        show Steps p.tables e below (s₁.setTop (mkF m 13 #[.val (.int p0), .val (.int p1), .val (.int p2)] [(.int p1)])) _
        refine XS.iconst X0.here hx rfl (hb hby d2_13) ?_
        show Steps p.tables e below (s₁.setTop (mkF m 14 #[.val (.int p0), .val (.int p1), .val (.int p2)] [(.int (1 : Int32)), (.int p1)])) _
        refine XS.isub X0.here hx rfl (hb hby d2_14) rfl ?_
        show Steps p.tables e below (s₁.setTop (mkF m 15 #[.val (.int p0), .val (.int p1), .val (.int p2)] [(.int (p1 - (1 : Int32)))])) _
        exact Steps.refl _)
      obtain ⟨fs, hr, hrun, hended, hW, hsame⟩ := X0.leave (v := some (.int (p1 - (1 : Int32)))) (fun h => by rw [Bd.returns] at h; cases h)
      refine ⟨_, _, K4.trans (retOut X0 hx Bd.returns rfl (Or.inl ⟨rfl, Or.inl rfl, _, rfl⟩) (hb hby d2_15) hr), hrun, hended, _, _, rfl, ?_, ⟨_, rfl⟩, hW, hsame.mono (by decide) (by first | decide | omega)⟩
      show Q_rm2 Z p0 p1 p2 h0 n0 _ s₁.heap _
      rw [e0]
      exact ⟨(by unfold f_rm2; rw [if_neg hc2, if_pos hc9]), N0, rfl⟩
    · have K5 : Steps p.tables e below _ (s₁.setTop (mkF m 18 #[.val (.int p0), .val (.int p1), .val (.int p2)] [(.int (3 : Int32)), (.int p0)])) := K3.trans (by
        show Steps p.tables e below (s₁.setTop (mkF m 9 #[.val (.int p0), .val (.int p1), .val (.int p2)] [(.int (2 : Int32)), (.int p0)])) _
        refine XS.icmpYes X0.here hx rfl (pc0 := 9) (pc' := 16) rfl (hb hby d2_9) rfl (feq hc9).2 (by decide) (by decide) ?_
        show Steps p.tables e below (s₁.setTop (mkF m 16 #[.val (.int p0), .val (.int p1), .val (.int p2)] [])) _
        refine XS.iloadN X0.here hx rfl (hb hby d2_16) rfl ?_
        show Steps p.tables e below (s₁.setTop (mkF m 17 #[.val (.int p0), .val (.int p1), .val (.int p2)] [(.int p0)])) _
        refine XS.iconst X0.here hx rfl (hb hby d2_17) ?_
        show Steps p.tables e below (s₁.setTop (mkF m 18 #[.val (.int p0), .val (.int p1), .val (.int p2)] [(.int (3 : Int32)), (.int p0)])) _
        exact Steps.refl _)
      by_cases hc18 : p0 = (3 : Int32)
      · have K6 : Steps p.tables e below _ (s₁.setTop (mkF m 24 #[.val (.int p0), .val (.int p1), .val (.int p2)] [(.int (p1 + (1 : Int32)))])) := K5.trans (by
          show Steps p.tables e below (s₁.setTop (mkF m 18 #[.val (.int p0), .val (.int p1), .val (.int p2)] [(.int (3 : Int32)), (.int p0)])) _
          refine XS.icmpNo X0.here hx rfl (hb hby d2_18) rfl (teq hc18).2 ?_
          show Steps p.tables e below (s₁.setTop (mkF m 21 #[.val (.int p0), .val (.int p1), .val (.int p2)] [])) _
          refine XS.iloadN X0.here hx rfl (hb hby d2_21) rfl ?_
          show Steps p.tables e below (s₁.setTop (mkF m 22 #[.val (.int p0), .val (.int p1), .val (.int p2)] [(.int p1)])) _
          refine XS.iconst X0.here hx rfl (hb hby d2_22) ?_
          show Steps p.tables e below (s₁.setTop (mkF m 23 #[.val (.int p0), .val (.int p1), .val (.int p2)] [(.int (1 : Int32)), (.int p1)])) _
          refine XS.iadd X0.here hx rfl (hb hby d2_23) rfl ?_
          show Steps p.tables e below (s₁.setTop (mkF m 24 #[.val (.int p0), .val (.int p1), .val (.int p2)] [(.int (p1 + (1 : Int32)))])) _
          exact Steps.refl _)
        obtain ⟨fs, hr, hrun, hended, hW, hsame⟩ := X0.leave (v := some (.int (p1 + (1 : Int32)))) (fun h => by rw [Bd.returns] at h; cases h)
        refine ⟨_, _, K6.trans (retOut X0 hx Bd.returns rfl (Or.inl ⟨rfl, Or.inl rfl, _, rfl⟩) (hb hby d2_24) hr), hrun, hended, _, _, rfl, ?_, ⟨_, rfl⟩, hW, hsame.mono (by decide) (by first | decide | omega)⟩
        show Q_rm2 Z p0 p1 p2 h0 n0 _ s₁.heap _
        rw [e0]
        exact ⟨(by unfold f_rm2; rw [if_neg hc2, if_neg hc9, if_pos hc18]), N0, rfl⟩
      · have K7 : Steps p.tables e below _ (s₁.setTop (mkF m 26 #[.val (.int p0), .val (.int p1), .val (.int p2)] [(.int p2)])) := K5.trans (by
          show Steps p.tables e below (s₁.setTop (mkF m 18 #[.val (.int p0), .val (.int p1), .val (.int p2)] [(.int (3 : Int32)), (.int p0)])) _
          refine XS.icmpYes X0.here hx rfl (pc0 := 18) (pc' := 25) rfl (hb hby d2_18) rfl (feq hc18).2 (by decide) (by decide) ?_
          show Steps p.tables e below (s₁.setTop (mkF m 25 #[.val (.int p0), .val (.int p1), .val (.int p2)] [])) _
          refine XS.iloadN X0.here hx rfl (hb hby d2_25) rfl ?_
          show Steps p.tables e below (s₁.setTop (mkF m 26 #[.val (.int p0), .val (.int p1), .val (.int p2)] [(.int p2)])) _
          exact Steps.refl _)
        obtain ⟨fs, hr, hrun, hended, hW, hsame⟩ := X0.leave (v := some (.int p2)) (fun h => by rw [Bd.returns] at h; cases h)
        refine ⟨_, _, K7.trans (retOut X0 hx Bd.returns rfl (Or.inl ⟨rfl, Or.inl rfl, _, rfl⟩) (hb hby d2_26) hr), hrun, hended, _, _, rfl, ?_, ⟨_, rfl⟩, hW, hsame.mono (by decide) (by first | decide | omega)⟩
        show Q_rm2 Z p0 p1 p2 h0 n0 _ s₁.heap _
        rw [e0]
        exact ⟨(by unfold f_rm2; rw [if_neg hc2, if_neg hc9, if_neg hc18]), N0, rfl⟩
theorem d4_0 : decode jdk_30_method_1_code 0 = .ok (.aload_n 0, 1) := by decide +kernel
theorem d4_1 : decode jdk_30_method_1_code 1 = .ok (.invokespecial 1, 3) := by decide +kernel
def Q_rm4 (Z : State) (o0 : Addr) (h0 : Heap) (n0 : Nat) (v : Option Value) (h : Heap) (L : List Loc) : Prop := v = none ∧ Fr n0 L ∧ h = h0
theorem pn_4 : plainName "java/lang/Record" = true := by first | (simp [plainName, overriddenIn]; done) | decide +kernel
theorem ef_4 (m : MethodId) (x0 : Addr) : entryFrame m #[(.ref x0)] 1 = mkF m 0 #[.val (.ref x0)] [] := by first | (simp [entryFrame, mkF, argsToLocals, Value.category]; done) | rfl
theorem d4_4 : decode jdk_30_method_1_code 4 = .ok (.return_, 1) := by decide +kernel
set_option maxRecDepth 65536 in
set_option maxHeartbeats 40000000 in
theorem rm4 (l : Launch) (Z : State) (a0 : Array Value) (hw : ∀ d ∈ tables_1, d.before a0 Z = true) (ws : List Jvm.Cond) (o0 : Addr) (h0 : Heap) (n0 : Nat) (Z0 : n0 ≤ h0.size) :
    MetFree l (⟨"java/lang/Record", "<init>", "()V"⟩ : MethodName) (head1 (Jvm.Cond.code (⟨"java/lang/Record", "<init>", "()V"⟩ : MethodName) jdk_30_method_1_code 1 none :: ws) ({ frames := 1, cells := 0, slots := 0, locals := 12 } : Room)) (fun a U => a = #[(.ref o0)] ∧ Z.Warmed39 U.vm ∧ U.heap = h0) (fun _ _ _ _ _ => True) (fun _ U o U' => ∃ v L, o = .returned v ∧ Q_rm4 Z o0 h0 n0 v U'.heap L ∧ FrameEnd U o U' L ({ frames := 1, cells := 0, slots := 0, locals := 12 } : Room).cells ({ frames := 1, cells := 0, slots := 0, locals := 12 } : Room).slots) := by
  refine MetFree.of_bodySF (plainFor_of_name pn_4) hisR ?_
  intro p e s m args below meth c s₁ Bd hml0 hP hK
  obtain ⟨rfl, hZ, hh⟩ := hP
  have hx := Bd.exec
  have hby := Bd.bytes
  have hml : c.maxLocals = 1 := hml0
  have hown : s.vm.findClass "java/lang/Record" = some m.cls := findClass_of_methodNamed Bd.named
  have hnm := (name_of_methodNamed Bd.named Bd.method).1
  have X0 : Stand p l e ({ frames := 1, cells := 0, slots := 0, locals := 12 } : Room) s m #[(.ref o0)] below meth c s₁ [] 0 0 := Stand.of_body Bd
  have e0 : s₁.heap = h0 := by rw [← hh, Bd.state]; rfl
  have N0 := Fr.nil n0
  have Kp0 : Keep h0 h0 [] := Keep.refl _ _
  have K0 : Steps p.tables e below (s₁.setTop (entryFrame m #[(.ref o0)] 1)) (s₁.setTop (mkF m 0 #[.val (.ref o0)] [])) := castTop (ef_4 m o0) (Steps.refl _)
  have K1 : Steps p.tables e below _ (s₁.setTop (mkF m 1 #[.val (.ref o0)] [(.ref o0)])) := K0.trans (by
    show Steps p.tables e below (s₁.setTop (mkF m 0 #[.val (.ref o0)] [])) _
    refine XS.aloadN X0.here hx rfl (hb hby d4_0) rfl rfl ?_
    show Steps p.tables e below (s₁.setTop (mkF m 1 #[.val (.ref o0)] [(.ref o0)])) _
    exact Steps.refl _)
  obtain ⟨T2, X2, e2, st2⟩ := initO X0 hx hZ hown (hw _ (List.mem_of_getElem? (i := 18) rfl)) (hw _ (List.mem_of_getElem? (i := 19) rfl)) (hw _ (List.mem_of_getElem? (i := 20) rfl)) e0 (g := (mkF m 1 #[.val (.ref o0)] [(.ref o0)])) rfl (by rw [hml]; rfl) rfl (hb hby d4_1) (by decide) (W := 0) (by show 2 * 0 + _ ≤ _; exact Nat.le_of_eq rfl) (by decide)
  have K3 : Steps p.tables e below _ (T2.setTop (mkF m 4 #[.val (.ref o0)] [])) := K1.trans (st2 _ (Steps.refl _))
  obtain ⟨fs, hr, hrun, hended, hW, hsame⟩ := X2.leave (v := none) (fun _ => rfl)
  refine ⟨_, _, K3.trans (X2.returnOut hx Bd.returns (hb hby d4_4) hr), hrun, hended, _, _, rfl, ?_, ⟨_, rfl⟩, hW, hsame.mono (by decide) (by first | decide | omega)⟩
  show Q_rm4 Z o0 h0 n0 _ T2.heap _
  rw [e2]
  exact ⟨rfl, N0, rfl⟩
theorem d3_0 : decode prog_36_method_1_code 0 = .ok (.aload_n 0, 1) := by decide +kernel
theorem pd_0 : parseMethodDescriptor "()V" = some ⟨[], none⟩ := by decide +kernel
theorem d3_1 : decode prog_36_method_1_code 1 = .ok (.invokespecial 1, 3) := by decide +kernel
theorem d3_4 : decode prog_36_method_1_code 4 = .ok (.aload_n 0, 1) := by decide +kernel
theorem d3_5 : decode prog_36_method_1_code 5 = .ok (.lload_n 1, 1) := by decide +kernel
theorem d3_6 : decode prog_36_method_1_code 6 = .ok (.putfield 7, 3) := by decide +kernel
theorem d3_9 : decode prog_36_method_1_code 9 = .ok (.aload_n 0, 1) := by decide +kernel
theorem d3_10 : decode prog_36_method_1_code 10 = .ok (.iload_n 3, 1) := by decide +kernel
theorem d3_11 : decode prog_36_method_1_code 11 = .ok (.putfield 13, 3) := by decide +kernel
def Q_rm3 (Z : State) (o0 : Addr) (q1 : Int64) (p2 : Int32) (u3_timestamp : Value) (u4_relativeOffset : Value) (h0 : Heap) (n0 : Nat) (v : Option Value) (h : Heap) (L : List Loc) : Prop := v = none ∧ Fr n0 L ∧ Keep h0 h [o0] ∧ Exa Z h o0 "com/example/modest_log/modestlog/log/TimeIndexEntry" ∧ Fld Z h o0 "com/example/modest_log/modestlog/log/TimeIndexEntry" "timestamp" "J" (.long q1) ∧ Fld Z h o0 "com/example/modest_log/modestlog/log/TimeIndexEntry" "relativeOffset" "I" (.int p2)
theorem pn_3 : plainName "com/example/modest_log/modestlog/log/TimeIndexEntry" = true := by first | (simp [plainName, overriddenIn]; done) | decide +kernel
theorem ef_3 (m : MethodId) (x0 : Addr) (x1 : Int64) (x2 : Int32) : entryFrame m #[(.ref x0), (.long x1), (.int x2)] 4 = mkF m 0 #[.val (.ref x0), .val (.long x1), .second, .val (.int x2)] [] := by first | (simp [entryFrame, mkF, argsToLocals, Value.category]; done) | rfl
theorem d3_14 : decode prog_36_method_1_code 14 = .ok (.return_, 1) := by decide +kernel
set_option maxRecDepth 65536 in
set_option maxHeartbeats 40000000 in
theorem rm3 (l : Launch) (Z : State) (a0 : Array Value) (hw : ∀ d ∈ tables_1, d.before a0 Z = true) (ws : List Jvm.Cond) (o0 : Addr) (q1 : Int64) (p2 : Int32) (u3_timestamp : Value) (u4_relativeOffset : Value) (h0 : Heap) (n0 : Nat) (Z0 : n0 ≤ h0.size) (g_o0 : n0 ≤ o0) (E_o0 : Exa Z h0 o0 "com/example/modest_log/modestlog/log/TimeIndexEntry") (F_timestamp_o0 : Fld Z h0 o0 "com/example/modest_log/modestlog/log/TimeIndexEntry" "timestamp" "J" u3_timestamp) (F_relativeOffset_o0 : Fld Z h0 o0 "com/example/modest_log/modestlog/log/TimeIndexEntry" "relativeOffset" "I" u4_relativeOffset) :
    MetFree l (⟨"com/example/modest_log/modestlog/log/TimeIndexEntry", "<init>", "(JI)V"⟩ : MethodName) (head1 (Jvm.Cond.code (⟨"com/example/modest_log/modestlog/log/TimeIndexEntry", "<init>", "(JI)V"⟩ : MethodName) prog_36_method_1_code 4 none :: ws) ({ frames := 2, cells := 0, slots := 0, locals := 24 } : Room)) (fun a U => a = #[(.ref o0), (.long q1), (.int p2)] ∧ Z.Warmed39 U.vm ∧ U.heap = h0) (fun _ _ _ _ _ => True) (fun _ U o U' => ∃ v L, o = .returned v ∧ Q_rm3 Z o0 q1 p2 u3_timestamp u4_relativeOffset h0 n0 v U'.heap L ∧ FrameEnd U o U' L ({ frames := 2, cells := 0, slots := 0, locals := 24 } : Room).cells ({ frames := 2, cells := 0, slots := 0, locals := 24 } : Room).slots) := by
  refine MetFree.of_bodySF (plainFor_of_name pn_3) hisR ?_
  intro p e s m args below meth c s₁ Bd hml0 hP hK
  obtain ⟨rfl, hZ, hh⟩ := hP
  have hx := Bd.exec
  have hby := Bd.bytes
  have hml : c.maxLocals = 4 := hml0
  have hown : s.vm.findClass "com/example/modest_log/modestlog/log/TimeIndexEntry" = some m.cls := findClass_of_methodNamed Bd.named
  have hnm := (name_of_methodNamed Bd.named Bd.method).1
  have X0 : Stand p l e ({ frames := 2, cells := 0, slots := 0, locals := 24 } : Room) s m #[(.ref o0), (.long q1), (.int p2)] below meth c s₁ [] 0 0 := Stand.of_body Bd
  have e0 : s₁.heap = h0 := by rw [← hh, Bd.state]; rfl
  have N0 := Fr.nil n0
  have Kp0 : Keep h0 h0 [o0] := Keep.refl _ _
  have K0 : Steps p.tables e below (s₁.setTop (entryFrame m #[(.ref o0), (.long q1), (.int p2)] 4)) (s₁.setTop (mkF m 0 #[.val (.ref o0), .val (.long q1), .second, .val (.int p2)] [])) := castTop (ef_3 m o0 q1 p2) (Steps.refl _)
  have K1 : Steps p.tables e below _ (s₁.setTop (mkF m 1 #[.val (.ref o0), .val (.long q1), .second, .val (.int p2)] [(.ref o0)])) := K0.trans (by
    show Steps p.tables e below (s₁.setTop (mkF m 0 #[.val (.ref o0), .val (.long q1), .second, .val (.int p2)] [])) _
    refine XS.aloadN X0.here hx rfl (hb hby d3_0) rfl rfl ?_
    show Steps p.tables e below (s₁.setTop (mkF m 1 #[.val (.ref o0), .val (.long q1), .second, .val (.int p2)] [(.ref o0)])) _
    exact Steps.refl _)
  obtain ⟨_, _, ⟨T2, L2, k2, n2⟩, -, X2, ⟨Lc2, hQ2, l2, y2, z2⟩, st2⟩ := X0.specialBack hx (y := (⟨"java/lang/Record", "<init>", "()V"⟩ : MethodName)) rfl hown (mvT hZ (hw _ (List.mem_of_getElem? (i := 13) rfl))) (mvT hZ (hw _ (List.mem_of_getElem? (i := 14) rfl))) (mvT hZ (hw _ (List.mem_of_getElem? (i := 17) rfl))) (by decide) (backOf (W := 0) (rm4 l Z a0 hw [] o0 h0 n0 Z0 ) hZ (hw _ (List.mem_of_getElem? (i := 17) rfl)) (hw _ (List.mem_of_getElem? (i := 16) rfl)) (by decide) (by decide)) (g := (mkF m 1 #[.val (.ref o0), .val (.long q1), .second, .val (.int p2)] [(.ref o0)])) rfl (by rw [hml]; rfl) K1 (a := o0) (argsL := []) (rest := []) (lenOf pd_0 rfl) rfl (by show 2 * 0 + _ ≤ _; exact Nat.le_of_eq rfl) (hb hby d3_1) (fun _ _ => ⟨rfl, e0, (by decide : 0 + 0 ≤ _), (by decide : 0 + 0 ≤ _)⟩)
  dsimp only [Pt.U, Pt.locs, Pt.cells, Pt.slots] at X2 l2 y2 z2 st2 hQ2
  subst l2 y2 z2
  obtain ⟨rfl, N2, eh2⟩ := hQ2
  have N2' := Fr.app N0 N2
  have K3 : Steps p.tables e below _ (T2.setTop (mkF m 4 #[.val (.ref o0), .val (.long q1), .second, .val (.int p2)] [])) := st2
  have K4 : Steps p.tables e below _ (T2.setTop (mkF m 6 #[.val (.ref o0), .val (.long q1), .second, .val (.int p2)] [(.long q1), (.ref o0)])) := K3.trans (by
    show Steps p.tables e below (T2.setTop (mkF m 4 #[.val (.ref o0), .val (.long q1), .second, .val (.int p2)] [])) _
    refine XS.aloadN X2.here hx rfl (hb hby d3_4) rfl rfl ?_
    show Steps p.tables e below (T2.setTop (mkF m 5 #[.val (.ref o0), .val (.long q1), .second, .val (.int p2)] [(.ref o0)])) _
    refine XS.lloadN X2.here hx rfl (hb hby d3_5) rfl ?_
    show Steps p.tables e below (T2.setTop (mkF m 6 #[.val (.ref o0), .val (.long q1), .second, .val (.int p2)] [(.long q1), (.ref o0)])) _
    exact Steps.refl _)
  obtain ⟨T5, h5, X5, e5, W5, st5⟩ := putF X2 hx hZ hown (host := "") (Or.inl (hw _ (List.mem_of_getElem? (i := 21) rfl))) Via.refl eh2 F_timestamp_o0 E_o0 (Or.inr ⟨(hw _ (List.mem_of_getElem? (i := 22) rfl)), rfl, hnm⟩) (hw _ (List.mem_of_getElem? (i := 8) rfl)) (ty := .long) (by decide) rfl rfl (g := (mkF m 6 #[.val (.ref o0), .val (.long q1), .second, .val (.int p2)] [(.long q1), (.ref o0)])) rfl rfl (hb hby d3_6)
  have K6 : Steps p.tables e below _ (T5.setTop (mkF m 9 #[.val (.ref o0), .val (.long q1), .second, .val (.int p2)] [])) := K4.trans (st5 _ (Steps.refl _))
  have Fw5 : Fld Z h5 o0 "com/example/modest_log/modestlog/log/TimeIndexEntry" "timestamp" "J" (.long q1) := F_timestamp_o0.same W5
  have N5 := Fr.snoc X5 N2' g_o0
  have K7 : Steps p.tables e below _ (T5.setTop (mkF m 11 #[.val (.ref o0), .val (.long q1), .second, .val (.int p2)] [(.int p2), (.ref o0)])) := K6.trans (by
    show Steps p.tables e below (T5.setTop (mkF m 9 #[.val (.ref o0), .val (.long q1), .second, .val (.int p2)] [])) _
    refine XS.aloadN X5.here hx rfl (hb hby d3_9) rfl rfl ?_
    show Steps p.tables e below (T5.setTop (mkF m 10 #[.val (.ref o0), .val (.long q1), .second, .val (.int p2)] [(.ref o0)])) _
    refine XS.iloadN X5.here hx rfl (hb hby d3_10) rfl ?_
    show Steps p.tables e below (T5.setTop (mkF m 11 #[.val (.ref o0), .val (.long q1), .second, .val (.int p2)] [(.int p2), (.ref o0)])) _
    exact Steps.refl _)
  have E_8 : Exa Z h5 o0 "com/example/modest_log/modestlog/log/TimeIndexEntry" := (E_o0.wr W5)
  have F_9 : Fld Z h5 o0 "com/example/modest_log/modestlog/log/TimeIndexEntry" "relativeOffset" "I" u4_relativeOffset := (F_relativeOffset_o0.other W5 (Or.inr (slot_ne (Or.inr (hw _ (List.mem_of_getElem? (i := 24) rfl))) (Or.inr (hw _ (List.mem_of_getElem? (i := 22) rfl))) (by decide) (t := .int) (t' := .long) (by decide) (by decide))))
  obtain ⟨T10, h10, X10, e10, W10, st10⟩ := putF X5 hx hZ hown (host := "") (Or.inl (hw _ (List.mem_of_getElem? (i := 23) rfl))) Via.refl e5 F_9 E_8 (Or.inr ⟨(hw _ (List.mem_of_getElem? (i := 24) rfl)), rfl, hnm⟩) (hw _ (List.mem_of_getElem? (i := 8) rfl)) (ty := .int) (by decide) rfl rfl (g := (mkF m 11 #[.val (.ref o0), .val (.long q1), .second, .val (.int p2)] [(.int p2), (.ref o0)])) rfl rfl (hb hby d3_11)
  have K11 : Steps p.tables e below _ (T10.setTop (mkF m 14 #[.val (.ref o0), .val (.long q1), .second, .val (.int p2)] [])) := K7.trans (st10 _ (Steps.refl _))
  have Fw10 : Fld Z h10 o0 "com/example/modest_log/modestlog/log/TimeIndexEntry" "relativeOffset" "I" (.int p2) := F_9.same W10
  have N10 := Fr.snoc X10 N5 g_o0
  obtain ⟨fs, hr, hrun, hended, hW, hsame⟩ := X10.leave (v := none) (fun _ => rfl)
  have K_12 : Keep h0 h10 [o0] := ((Kp0.wr W5 (Or.inl (List.mem_of_getElem? (i := 0) rfl))).wr W10 (Or.inl (List.mem_of_getElem? (i := 0) rfl)))
  have E_13 : Exa Z h10 o0 "com/example/modest_log/modestlog/log/TimeIndexEntry" := (E_8.wr W10)
  have F_14 : Fld Z h10 o0 "com/example/modest_log/modestlog/log/TimeIndexEntry" "timestamp" "J" (.long q1) := (Fw5.other W10 (Or.inr (slot_ne (Or.inr (hw _ (List.mem_of_getElem? (i := 22) rfl))) (Or.inr (hw _ (List.mem_of_getElem? (i := 24) rfl))) (by decide) (t := .long) (t' := .int) (by decide) (by decide))))
  refine ⟨_, _, K11.trans (X10.returnOut hx Bd.returns (hb hby d3_14) hr), hrun, hended, _, _, rfl, ?_, ⟨_, rfl⟩, hW, hsame.mono (by decide) (by first | decide | omega)⟩
  show Q_rm3 Z o0 q1 p2 u3_timestamp u4_relativeOffset h0 n0 _ T10.heap _
  rw [e10]
  exact ⟨rfl, N10, K_12, E_13, F_14, Fw10⟩
theorem d6_0 : decode jdk_29_method_66_code 0 = .ok (.lload_n 0, 1) := by decide +kernel
theorem d6_1 : decode jdk_29_method_66_code 1 = .ok (.lload_n 2, 1) := by decide +kernel
theorem d6_2 : decode jdk_29_method_66_code 2 = .ok (.lcmp, 1) := by decide +kernel
theorem d6_3 : decode jdk_29_method_66_code 3 = .ok (.ifCond .lt 7, 3) := by decide +kernel
theorem d6_10 : decode jdk_29_method_66_code 10 = .ok (.lload_n 2, 1) := by decide +kernel
theorem d6_6 : decode jdk_29_method_66_code 6 = .ok (.lload_n 0, 1) := by decide +kernel
theorem d6_7 : decode jdk_29_method_66_code 7 = .ok (.goto 4, 3) := by decide +kernel
def Q_rm6 (Z : State) (q0 : Int64) (q1 : Int64) (h0 : Heap) (n0 : Nat) (v : Option Value) (h : Heap) (L : List Loc) : Prop := v = some (.long (if q0 < q1 then q1 else q0)) ∧ Fr n0 L ∧ h = h0
theorem ef_6 (m : MethodId) (x0 : Int64) (x1 : Int64) : entryFrame m #[(.long x0), (.long x1)] 4 = mkF m 0 #[.val (.long x0), .second, .val (.long x1), .second] [] := by first | (simp [entryFrame, mkF, argsToLocals, Value.category]; done) | rfl
theorem d6_11 : decode jdk_29_method_66_code 11 = .ok (.lreturn, 1) := by decide +kernel
set_option maxRecDepth 65536 in
set_option maxHeartbeats 40000000 in
theorem rm6 (l : Launch) (Z : State) (a0 : Array Value) (hw : ∀ d ∈ tables_1, d.before a0 Z = true) (ws : List Jvm.Cond) (q0 : Int64) (q1 : Int64) (h0 : Heap) (n0 : Nat) (Z0 : n0 ≤ h0.size) :
    MetFree l (⟨"java/lang/Math", "max", "(JJ)J"⟩ : MethodName) (head1 (Jvm.Cond.code (⟨"java/lang/Math", "max", "(JJ)J"⟩ : MethodName) jdk_29_method_66_code 4 (some .long) :: ws) ({ frames := 0, cells := 0, slots := 0, locals := 0 } : Room)) (fun a U => a = #[(.long q0), (.long q1)] ∧ Z.Warmed39 U.vm ∧ U.heap = h0) (fun _ _ _ _ _ => True) (fun _ U o U' => ∃ v L, o = .returned v ∧ Q_rm6 Z q0 q1 h0 n0 v U'.heap L ∧ FrameEnd U o U' L ({ frames := 0, cells := 0, slots := 0, locals := 0 } : Room).cells ({ frames := 0, cells := 0, slots := 0, locals := 0 } : Room).slots) := by
  refine MetFree.of_bodySF (Jvm.Free.JP.mathPlain rfl (by decide +kernel)) hisR ?_
  intro p e s m args below meth c s₁ Bd hml0 hP hK
  obtain ⟨rfl, hZ, hh⟩ := hP
  have hx := Bd.exec
  have hby := Bd.bytes
  have hml : c.maxLocals = 4 := hml0
  have hown : s.vm.findClass "java/lang/Math" = some m.cls := findClass_of_methodNamed Bd.named
  have hnm := (name_of_methodNamed Bd.named Bd.method).1
  have X0 : Stand p l e ({ frames := 0, cells := 0, slots := 0, locals := 0 } : Room) s m #[(.long q0), (.long q1)] below meth c s₁ [] 0 0 := Stand.of_body Bd
  have e0 : s₁.heap = h0 := by rw [← hh, Bd.state]; rfl
  have N0 := Fr.nil n0
  have Kp0 : Keep h0 h0 [] := Keep.refl _ _
  have K0 : Steps p.tables e below (s₁.setTop (entryFrame m #[(.long q0), (.long q1)] 4)) (s₁.setTop (mkF m 0 #[.val (.long q0), .second, .val (.long q1), .second] [])) := castTop (ef_6 m q0 q1) (Steps.refl _)
  have K1 : Steps p.tables e below _ (s₁.setTop (mkF m 3 #[.val (.long q0), .second, .val (.long q1), .second] [(.int (lcmpW q0 q1))])) := K0.trans (by
    show Steps p.tables e below (s₁.setTop (mkF m 0 #[.val (.long q0), .second, .val (.long q1), .second] [])) _
    refine XS.lloadN X0.here hx rfl (hb hby d6_0) rfl ?_
    show Steps p.tables e below (s₁.setTop (mkF m 1 #[.val (.long q0), .second, .val (.long q1), .second] [(.long q0)])) _
    refine XS.lloadN X0.here hx rfl (hb hby d6_1) rfl ?_
    show Steps p.tables e below (s₁.setTop (mkF m 2 #[.val (.long q0), .second, .val (.long q1), .second] [(.long q1), (.long q0)])) _
    refine XS.lcmp X0.here hx rfl (hb hby d6_2) rfl ?_
    show Steps p.tables e below (s₁.setTop (mkF m 3 #[.val (.long q0), .second, .val (.long q1), .second] [(.int (lcmpW q0 q1))])) _
    exact Steps.refl _)
  obtain ⟨v2_0, hv2_0, S2⟩ : ∃ (v2_0 : Int64), (if q0 < q1 then q1 else q0) = v2_0 ∧ Steps p.tables e below (s₁.setTop (mkF m 3 #[.val (.long q0), .second, .val (.long q1), .second] [(.int (lcmpW q0 q1))])) (s₁.setTop (mkF m 11 #[.val (.long q0), .second, .val (.long q1), .second] [(.long v2_0)])) := by
    have R2 : Steps p.tables e below (s₁.setTop (mkF m 3 #[.val (.long q0), .second, .val (.long q1), .second] [(.int (lcmpW q0 q1))])) (s₁.setTop (mkF m 3 #[.val (.long q0), .second, .val (.long q1), .second] [(.int (lcmpW q0 q1))])) := Steps.refl _
    by_cases hc3 : q0 < q1
    · have K3 : Steps p.tables e below _ (s₁.setTop (mkF m 11 #[.val (.long q0), .second, .val (.long q1), .second] [(.long q1)])) := R2.trans (by
        show Steps p.tables e below (s₁.setTop (mkF m 3 #[.val (.long q0), .second, .val (.long q1), .second] [(.int (lcmpW q0 q1))])) _
        refine XS.ifYes X0.here hx rfl (pc0 := 3) (pc' := 10) rfl (hb hby d6_3) rfl ((if0 _ _).trans (tlt ((lw_lt q0 q1).mpr hc3)).1) (by decide) (by decide) ?_
        show Steps p.tables e below (s₁.setTop (mkF m 10 #[.val (.long q0), .second, .val (.long q1), .second] [])) _
        refine XS.lloadN X0.here hx rfl (hb hby d6_10) rfl ?_
        show Steps p.tables e below (s₁.setTop (mkF m 11 #[.val (.long q0), .second, .val (.long q1), .second] [(.long q1)])) _
        exact Steps.refl _)
      exact ⟨q1, (by rw [if_pos hc3]), K3⟩
    · have K4 : Steps p.tables e below _ (s₁.setTop (mkF m 11 #[.val (.long q0), .second, .val (.long q1), .second] [(.long q0)])) := R2.trans (by
        show Steps p.tables e below (s₁.setTop (mkF m 3 #[.val (.long q0), .second, .val (.long q1), .second] [(.int (lcmpW q0 q1))])) _
        refine XS.ifNo X0.here hx rfl (hb hby d6_3) rfl ((if0 _ _).trans (flt (fun z => hc3 ((lw_lt q0 q1).mp z))).1) ?_
        show Steps p.tables e below (s₁.setTop (mkF m 6 #[.val (.long q0), .second, .val (.long q1), .second] [])) _
        refine XS.lloadN X0.here hx rfl (hb hby d6_6) rfl ?_
        show Steps p.tables e below (s₁.setTop (mkF m 7 #[.val (.long q0), .second, .val (.long q1), .second] [(.long q0)])) _
        refine XS.goto X0.here hx rfl (pc0 := 7) (pc' := 11) rfl (hb hby d6_7) (by decide) (by decide) ?_
        show Steps p.tables e below (s₁.setTop (mkF m 11 #[.val (.long q0), .second, .val (.long q1), .second] [(.long q0)])) _
        exact Steps.refl _)
      exact ⟨q0, (by rw [if_neg hc3]), K4⟩
  have K5 := K1.trans S2
  subst hv2_0
  obtain ⟨fs, hr, hrun, hended, hW, hsame⟩ := X0.leave (v := some (.long (if q0 < q1 then q1 else q0))) (fun h => by rw [Bd.returns] at h; cases h)
  refine ⟨_, _, K5.trans (retOut X0 hx Bd.returns rfl (Or.inr (Or.inl ⟨rfl, rfl, _, rfl⟩)) (hb hby d6_11) hr), hrun, hended, _, _, rfl, ?_, ⟨_, rfl⟩, hW, hsame.mono (by decide) (by first | decide | omega)⟩
  show Q_rm6 Z q0 q1 h0 n0 _ s₁.heap _
  rw [e0]
  exact ⟨rfl, N0, rfl⟩
theorem d7_0 : decode jdk_29_method_65_code 0 = .ok (.iload_n 0, 1) := by decide +kernel
theorem d7_1 : decode jdk_29_method_65_code 1 = .ok (.iload_n 1, 1) := by decide +kernel
theorem d7_2 : decode jdk_29_method_65_code 2 = .ok (.if_icmp .lt 7, 3) := by decide +kernel
theorem d7_9 : decode jdk_29_method_65_code 9 = .ok (.iload_n 1, 1) := by decide +kernel
theorem d7_5 : decode jdk_29_method_65_code 5 = .ok (.iload_n 0, 1) := by decide +kernel
theorem d7_6 : decode jdk_29_method_65_code 6 = .ok (.goto 4, 3) := by decide +kernel
def Q_rm7 (Z : State) (p0 : Int32) (p1 : Int32) (h0 : Heap) (n0 : Nat) (v : Option Value) (h : Heap) (L : List Loc) : Prop := v = some (.int (if p0 < p1 then p1 else p0)) ∧ Fr n0 L ∧ h = h0
theorem ef_7 (m : MethodId) (x0 : Int32) (x1 : Int32) : entryFrame m #[(.int x0), (.int x1)] 2 = mkF m 0 #[.val (.int x0), .val (.int x1)] [] := by first | (simp [entryFrame, mkF, argsToLocals, Value.category]; done) | rfl
theorem d7_10 : decode jdk_29_method_65_code 10 = .ok (.ireturn, 1) := by decide +kernel
set_option maxRecDepth 65536 in
set_option maxHeartbeats 40000000 in
theorem rm7 (l : Launch) (Z : State) (a0 : Array Value) (hw : ∀ d ∈ tables_1, d.before a0 Z = true) (ws : List Jvm.Cond) (p0 : Int32) (p1 : Int32) (h0 : Heap) (n0 : Nat) (Z0 : n0 ≤ h0.size) :
    MetFree l (⟨"java/lang/Math", "max", "(II)I"⟩ : MethodName) (head1 (Jvm.Cond.code (⟨"java/lang/Math", "max", "(II)I"⟩ : MethodName) jdk_29_method_65_code 2 (some .int) :: ws) ({ frames := 0, cells := 0, slots := 0, locals := 0 } : Room)) (fun a U => a = #[(.int p0), (.int p1)] ∧ Z.Warmed39 U.vm ∧ U.heap = h0) (fun _ _ _ _ _ => True) (fun _ U o U' => ∃ v L, o = .returned v ∧ Q_rm7 Z p0 p1 h0 n0 v U'.heap L ∧ FrameEnd U o U' L ({ frames := 0, cells := 0, slots := 0, locals := 0 } : Room).cells ({ frames := 0, cells := 0, slots := 0, locals := 0 } : Room).slots) := by
  refine MetFree.of_bodySF (Jvm.Free.JP.mathPlain rfl (by decide +kernel)) hisR ?_
  intro p e s m args below meth c s₁ Bd hml0 hP hK
  obtain ⟨rfl, hZ, hh⟩ := hP
  have hx := Bd.exec
  have hby := Bd.bytes
  have hml : c.maxLocals = 2 := hml0
  have hown : s.vm.findClass "java/lang/Math" = some m.cls := findClass_of_methodNamed Bd.named
  have hnm := (name_of_methodNamed Bd.named Bd.method).1
  have X0 : Stand p l e ({ frames := 0, cells := 0, slots := 0, locals := 0 } : Room) s m #[(.int p0), (.int p1)] below meth c s₁ [] 0 0 := Stand.of_body Bd
  have e0 : s₁.heap = h0 := by rw [← hh, Bd.state]; rfl
  have N0 := Fr.nil n0
  have Kp0 : Keep h0 h0 [] := Keep.refl _ _
  have K0 : Steps p.tables e below (s₁.setTop (entryFrame m #[(.int p0), (.int p1)] 2)) (s₁.setTop (mkF m 0 #[.val (.int p0), .val (.int p1)] [])) := castTop (ef_7 m p0 p1) (Steps.refl _)
  have K1 : Steps p.tables e below _ (s₁.setTop (mkF m 2 #[.val (.int p0), .val (.int p1)] [(.int p1), (.int p0)])) := K0.trans (by
    show Steps p.tables e below (s₁.setTop (mkF m 0 #[.val (.int p0), .val (.int p1)] [])) _
    refine XS.iloadN X0.here hx rfl (hb hby d7_0) rfl ?_
    show Steps p.tables e below (s₁.setTop (mkF m 1 #[.val (.int p0), .val (.int p1)] [(.int p0)])) _
    refine XS.iloadN X0.here hx rfl (hb hby d7_1) rfl ?_
    show Steps p.tables e below (s₁.setTop (mkF m 2 #[.val (.int p0), .val (.int p1)] [(.int p1), (.int p0)])) _
    exact Steps.refl _)
  obtain ⟨v2_0, hv2_0, S2⟩ : ∃ (v2_0 : Int32), (if p0 < p1 then p1 else p0) = v2_0 ∧ Steps p.tables e below (s₁.setTop (mkF m 2 #[.val (.int p0), .val (.int p1)] [(.int p1), (.int p0)])) (s₁.setTop (mkF m 10 #[.val (.int p0), .val (.int p1)] [(.int v2_0)])) := by
    have R2 : Steps p.tables e below (s₁.setTop (mkF m 2 #[.val (.int p0), .val (.int p1)] [(.int p1), (.int p0)])) (s₁.setTop (mkF m 2 #[.val (.int p0), .val (.int p1)] [(.int p1), (.int p0)])) := Steps.refl _
    by_cases hc2 : p0 < p1
    · have K3 : Steps p.tables e below _ (s₁.setTop (mkF m 10 #[.val (.int p0), .val (.int p1)] [(.int p1)])) := R2.trans (by
        show Steps p.tables e below (s₁.setTop (mkF m 2 #[.val (.int p0), .val (.int p1)] [(.int p1), (.int p0)])) _
        refine XS.icmpYes X0.here hx rfl (pc0 := 2) (pc' := 9) rfl (hb hby d7_2) rfl (tlt hc2).1 (by decide) (by decide) ?_
        show Steps p.tables e below (s₁.setTop (mkF m 9 #[.val (.int p0), .val (.int p1)] [])) _
        refine XS.iloadN X0.here hx rfl (hb hby d7_9) rfl ?_
        show Steps p.tables e below (s₁.setTop (mkF m 10 #[.val (.int p0), .val (.int p1)] [(.int p1)])) _
        exact Steps.refl _)
      exact ⟨p1, (by rw [if_pos hc2]), K3⟩
    · have K4 : Steps p.tables e below _ (s₁.setTop (mkF m 10 #[.val (.int p0), .val (.int p1)] [(.int p0)])) := R2.trans (by
        show Steps p.tables e below (s₁.setTop (mkF m 2 #[.val (.int p0), .val (.int p1)] [(.int p1), (.int p0)])) _
        refine XS.icmpNo X0.here hx rfl (hb hby d7_2) rfl (flt hc2).1 ?_
        show Steps p.tables e below (s₁.setTop (mkF m 5 #[.val (.int p0), .val (.int p1)] [])) _
        refine XS.iloadN X0.here hx rfl (hb hby d7_5) rfl ?_
        show Steps p.tables e below (s₁.setTop (mkF m 6 #[.val (.int p0), .val (.int p1)] [(.int p0)])) _
        refine XS.goto X0.here hx rfl (pc0 := 6) (pc' := 10) rfl (hb hby d7_6) (by decide) (by decide) ?_
        show Steps p.tables e below (s₁.setTop (mkF m 10 #[.val (.int p0), .val (.int p1)] [(.int p0)])) _
        exact Steps.refl _)
      exact ⟨p0, (by rw [if_neg hc2]), K4⟩
  have K5 := K1.trans S2
  subst hv2_0
  obtain ⟨fs, hr, hrun, hended, hW, hsame⟩ := X0.leave (v := some (.int (if p0 < p1 then p1 else p0))) (fun h => by rw [Bd.returns] at h; cases h)
  refine ⟨_, _, K5.trans (retOut X0 hx Bd.returns rfl (Or.inl ⟨rfl, Or.inl rfl, _, rfl⟩) (hb hby d7_10) hr), hrun, hended, _, _, rfl, ?_, ⟨_, rfl⟩, hW, hsame.mono (by decide) (by first | decide | omega)⟩
  show Q_rm7 Z p0 p1 h0 n0 _ s₁.heap _
  rw [e0]
  exact ⟨rfl, N0, rfl⟩
theorem d8_0 : decode prog_36_method_4_code 0 = .ok (.aload_n 0, 1) := by decide +kernel
theorem d8_1 : decode prog_36_method_4_code 1 = .ok (.getfield 7, 3) := by decide +kernel
theorem d8_4 : decode prog_36_method_4_code 4 = .ok (.aload_n 1, 1) := by decide +kernel
theorem d8_5 : decode prog_36_method_4_code 5 = .ok (.getfield 7, 3) := by decide +kernel
theorem d8_8 : decode prog_36_method_4_code 8 = .ok (.lcmp, 1) := by decide +kernel
theorem d8_9 : decode prog_36_method_4_code 9 = .ok (.ifCond .le 18, 3) := by decide +kernel
theorem d8_12 : decode prog_36_method_4_code 12 = .ok (.aload_n 0, 1) := by decide +kernel
theorem d8_13 : decode prog_36_method_4_code 13 = .ok (.getfield 13, 3) := by decide +kernel
theorem d8_16 : decode prog_36_method_4_code 16 = .ok (.aload_n 1, 1) := by decide +kernel
theorem d8_17 : decode prog_36_method_4_code 17 = .ok (.getfield 13, 3) := by decide +kernel
theorem d8_20 : decode prog_36_method_4_code 20 = .ok (.if_icmp .le 7, 3) := by decide +kernel
theorem d8_23 : decode prog_36_method_4_code 23 = .ok (.iconst 1, 1) := by decide +kernel
theorem d8_24 : decode prog_36_method_4_code 24 = .ok (.goto 4, 3) := by decide +kernel
theorem d8_27 : decode prog_36_method_4_code 27 = .ok (.iconst 0, 1) := by decide +kernel
def Q_rm8 (Z : State) (o0 : Addr) (o1 : Addr) (w2_timestamp : Int64) (w3_timestamp : Int64) (w4_relativeOffset : Int32) (w5_relativeOffset : Int32) (h0 : Heap) (n0 : Nat) (v : Option Value) (h : Heap) (L : List Loc) : Prop := v = some (.int ((if w3_timestamp < w2_timestamp then (if w5_relativeOffset < w4_relativeOffset then (1 : Int32) else (0 : Int32)) else (0 : Int32)) &&& 1)) ∧ Fr n0 L ∧ h = h0
theorem pn_8 : plainName "com/example/modest_log/modestlog/log/TimeIndexEntry" = true := by first | (simp [plainName, overriddenIn]; done) | decide +kernel
theorem ef_8 (m : MethodId) (x0 : Addr) (x1 : Addr) : entryFrame m #[(.ref x0), (.ref x1)] 2 = mkF m 0 #[.val (.ref x0), .val (.ref x1)] [] := by first | (simp [entryFrame, mkF, argsToLocals, Value.category]; done) | rfl
theorem d8_28 : decode prog_36_method_4_code 28 = .ok (.ireturn, 1) := by decide +kernel
set_option maxRecDepth 65536 in
set_option maxHeartbeats 40000000 in
theorem rm8 (l : Launch) (Z : State) (a0 : Array Value) (hw : ∀ d ∈ tables_1, d.before a0 Z = true) (ws : List Jvm.Cond) (o0 : Addr) (o1 : Addr) (w2_timestamp : Int64) (w3_timestamp : Int64) (w4_relativeOffset : Int32) (w5_relativeOffset : Int32) (h0 : Heap) (n0 : Nat) (Z0 : n0 ≤ h0.size) (F_timestamp_o0 : Fld Z h0 o0 "com/example/modest_log/modestlog/log/TimeIndexEntry" "timestamp" "J" (.long w2_timestamp)) (F_timestamp_o1 : Fld Z h0 o1 "com/example/modest_log/modestlog/log/TimeIndexEntry" "timestamp" "J" (.long w3_timestamp)) (F_relativeOffset_o0 : Fld Z h0 o0 "com/example/modest_log/modestlog/log/TimeIndexEntry" "relativeOffset" "I" (.int w4_relativeOffset)) (F_relativeOffset_o1 : Fld Z h0 o1 "com/example/modest_log/modestlog/log/TimeIndexEntry" "relativeOffset" "I" (.int w5_relativeOffset)) :
    MetFree l (⟨"com/example/modest_log/modestlog/log/TimeIndexEntry", "follows", "(Lcom/example/modest_log/modestlog/log/TimeIndexEntry;)Z"⟩ : MethodName) (head1 (Jvm.Cond.code (⟨"com/example/modest_log/modestlog/log/TimeIndexEntry", "follows", "(Lcom/example/modest_log/modestlog/log/TimeIndexEntry;)Z"⟩ : MethodName) prog_36_method_4_code 2 (some .boolean) :: ws) ({ frames := 0, cells := 0, slots := 0, locals := 0 } : Room)) (fun a U => a = #[(.ref o0), (.ref o1)] ∧ Z.Warmed39 U.vm ∧ U.heap = h0) (fun _ _ _ _ _ => True) (fun _ U o U' => ∃ v L, o = .returned v ∧ Q_rm8 Z o0 o1 w2_timestamp w3_timestamp w4_relativeOffset w5_relativeOffset h0 n0 v U'.heap L ∧ FrameEnd U o U' L ({ frames := 0, cells := 0, slots := 0, locals := 0 } : Room).cells ({ frames := 0, cells := 0, slots := 0, locals := 0 } : Room).slots) := by
  refine MetFree.of_bodySF (plainFor_of_name pn_8) hisR ?_
  intro p e s m args below meth c s₁ Bd hml0 hP hK
  obtain ⟨rfl, hZ, hh⟩ := hP
  have hx := Bd.exec
  have hby := Bd.bytes
  have hml : c.maxLocals = 2 := hml0
  have hown : s.vm.findClass "com/example/modest_log/modestlog/log/TimeIndexEntry" = some m.cls := findClass_of_methodNamed Bd.named
  have hnm := (name_of_methodNamed Bd.named Bd.method).1
  have X0 : Stand p l e ({ frames := 0, cells := 0, slots := 0, locals := 0 } : Room) s m #[(.ref o0), (.ref o1)] below meth c s₁ [] 0 0 := Stand.of_body Bd
  have e0 : s₁.heap = h0 := by rw [← hh, Bd.state]; rfl
  have N0 := Fr.nil n0
  have Kp0 : Keep h0 h0 [] := Keep.refl _ _
  have K0 : Steps p.tables e below (s₁.setTop (entryFrame m #[(.ref o0), (.ref o1)] 2)) (s₁.setTop (mkF m 0 #[.val (.ref o0), .val (.ref o1)] [])) := castTop (ef_8 m o0 o1) (Steps.refl _)
  have K1 : Steps p.tables e below _ (s₁.setTop (mkF m 1 #[.val (.ref o0), .val (.ref o1)] [(.ref o0)])) := K0.trans (by
    show Steps p.tables e below (s₁.setTop (mkF m 0 #[.val (.ref o0), .val (.ref o1)] [])) _
    refine XS.aloadN X0.here hx rfl (hb hby d8_0) rfl rfl ?_
    show Steps p.tables e below (s₁.setTop (mkF m 1 #[.val (.ref o0), .val (.ref o1)] [(.ref o0)])) _
    exact Steps.refl _)
  obtain ⟨T2, X2, e2, st2⟩ := getF X0 hx hZ hown (host := "") (Or.inl (hw _ (List.mem_of_getElem? (i := 21) rfl))) Via.refl e0 F_timestamp_o0 (g := (mkF m 1 #[.val (.ref o0), .val (.ref o1)] [(.ref o0)])) rfl rfl (hb hby d8_1)
  have K3 : Steps p.tables e below _ (T2.setTop (mkF m 4 #[.val (.ref o0), .val (.ref o1)] [(.long w2_timestamp)])) := K1.trans (st2 _ (Steps.refl _))
  have K4 : Steps p.tables e below _ (T2.setTop (mkF m 5 #[.val (.ref o0), .val (.ref o1)] [(.ref o1), (.long w2_timestamp)])) := K3.trans (by
    show Steps p.tables e below (T2.setTop (mkF m 4 #[.val (.ref o0), .val (.ref o1)] [(.long w2_timestamp)])) _
    refine XS.aloadN X2.here hx rfl (hb hby d8_4) rfl rfl ?_
    show Steps p.tables e below (T2.setTop (mkF m 5 #[.val (.ref o0), .val (.ref o1)] [(.ref o1), (.long w2_timestamp)])) _
    exact Steps.refl _)
  obtain ⟨T5, X5, e5, st5⟩ := getF X2 hx hZ hown (host := "") (Or.inl (hw _ (List.mem_of_getElem? (i := 21) rfl))) Via.refl e2 F_timestamp_o1 (g := (mkF m 5 #[.val (.ref o0), .val (.ref o1)] [(.ref o1), (.long w2_timestamp)])) rfl rfl (hb hby d8_5)
  have K6 : Steps p.tables e below _ (T5.setTop (mkF m 8 #[.val (.ref o0), .val (.ref o1)] [(.long w3_timestamp), (.long w2_timestamp)])) := K4.trans (st5 _ (Steps.refl _))
  have K7 : Steps p.tables e below _ (T5.setTop (mkF m 9 #[.val (.ref o0), .val (.ref o1)] [(.int (lcmpW w2_timestamp w3_timestamp))])) := K6.trans (by
    show Steps p.tables e below (T5.setTop (mkF m 8 #[.val (.ref o0), .val (.ref o1)] [(.long w3_timestamp), (.long w2_timestamp)])) _
    refine XS.lcmp X5.here hx rfl (hb hby d8_8) rfl ?_
    show Steps p.tables e below (T5.setTop (mkF m 9 #[.val (.ref o0), .val (.ref o1)] [(.int (lcmpW w2_timestamp w3_timestamp))])) _
    exact Steps.refl _)
  obtain ⟨T8, L8, v8_0, X8, e8, N8, hv8_0, S8⟩ : ∃ (T8 : State) (L8 : List Loc) (v8_0 : Int32), Stand p l e ({ frames := 0, cells := 0, slots := 0, locals := 0 } : Room) s m #[(.ref o0), (.ref o1)] below meth c T8 L8 0 0 ∧ T8.heap = h0 ∧ Fr n0 L8 ∧ (if w3_timestamp < w2_timestamp then (if w5_relativeOffset < w4_relativeOffset then (1 : Int32) else (0 : Int32)) else (0 : Int32)) = v8_0 ∧ Steps p.tables e below (T5.setTop (mkF m 9 #[.val (.ref o0), .val (.ref o1)] [(.int (lcmpW w2_timestamp w3_timestamp))])) (T8.setTop (mkF m 28 #[.val (.ref o0), .val (.ref o1)] [(.int v8_0)])) := by
    have R8 : Steps p.tables e below (T5.setTop (mkF m 9 #[.val (.ref o0), .val (.ref o1)] [(.int (lcmpW w2_timestamp w3_timestamp))])) (T5.setTop (mkF m 9 #[.val (.ref o0), .val (.ref o1)] [(.int (lcmpW w2_timestamp w3_timestamp))])) := Steps.refl _
    by_cases hc9 : w3_timestamp < w2_timestamp
    · have K9 : Steps p.tables e below _ (T5.setTop (mkF m 13 #[.val (.ref o0), .val (.ref o1)] [(.ref o0)])) := R8.trans (by
        show Steps p.tables e below (T5.setTop (mkF m 9 #[.val (.ref o0), .val (.ref o1)] [(.int (lcmpW w2_timestamp w3_timestamp))])) _
        refine XS.ifNo X5.here hx rfl (hb hby d8_9) rfl ((if0 _ _).trans (tlt ((lw_gt w2_timestamp w3_timestamp).mpr hc9)).2.2.2) ?_
        show Steps p.tables e below (T5.setTop (mkF m 12 #[.val (.ref o0), .val (.ref o1)] [])) _
        refine XS.aloadN X5.here hx rfl (hb hby d8_12) rfl rfl ?_
        show Steps p.tables e below (T5.setTop (mkF m 13 #[.val (.ref o0), .val (.ref o1)] [(.ref o0)])) _
        exact Steps.refl _)
      obtain ⟨T10, X10, e10, st10⟩ := getF X5 hx hZ hown (host := "") (Or.inl (hw _ (List.mem_of_getElem? (i := 23) rfl))) Via.refl e5 F_relativeOffset_o0 (g := (mkF m 13 #[.val (.ref o0), .val (.ref o1)] [(.ref o0)])) rfl rfl (hb hby d8_13)
      have K11 : Steps p.tables e below _ (T10.setTop (mkF m 16 #[.val (.ref o0), .val (.ref o1)] [(.int w4_relativeOffset)])) := K9.trans (st10 _ (Steps.refl _))
      have K12 : Steps p.tables e below _ (T10.setTop (mkF m 17 #[.val (.ref o0), .val (.ref o1)] [(.ref o1), (.int w4_relativeOffset)])) := K11.trans (by
        show Steps p.tables e below (T10.setTop (mkF m 16 #[.val (.ref o0), .val (.ref o1)] [(.int w4_relativeOffset)])) _
        refine XS.aloadN X10.here hx rfl (hb hby d8_16) rfl rfl ?_
        show Steps p.tables e below (T10.setTop (mkF m 17 #[.val (.ref o0), .val (.ref o1)] [(.ref o1), (.int w4_relativeOffset)])) _
        exact Steps.refl _)
      obtain ⟨T13, X13, e13, st13⟩ := getF X10 hx hZ hown (host := "") (Or.inl (hw _ (List.mem_of_getElem? (i := 23) rfl))) Via.refl e10 F_relativeOffset_o1 (g := (mkF m 17 #[.val (.ref o0), .val (.ref o1)] [(.ref o1), (.int w4_relativeOffset)])) rfl rfl (hb hby d8_17)
      have K14 : Steps p.tables e below _ (T13.setTop (mkF m 20 #[.val (.ref o0), .val (.ref o1)] [(.int w5_relativeOffset), (.int w4_relativeOffset)])) := K12.trans (st13 _ (Steps.refl _))
      by_cases hc20 : w5_relativeOffset < w4_relativeOffset
      · have K15 : Steps p.tables e below _ (T13.setTop (mkF m 28 #[.val (.ref o0), .val (.ref o1)] [(.int (1 : Int32))])) := K14.trans (by
          show Steps p.tables e below (T13.setTop (mkF m 20 #[.val (.ref o0), .val (.ref o1)] [(.int w5_relativeOffset), (.int w4_relativeOffset)])) _
          refine XS.icmpNo X13.here hx rfl (hb hby d8_20) rfl (tlt hc20).2.2.2 ?_
          show Steps p.tables e below (T13.setTop (mkF m 23 #[.val (.ref o0), .val (.ref o1)] [])) _
          refine XS.iconst X13.here hx rfl (hb hby d8_23) ?_
          show Steps p.tables e below (T13.setTop (mkF m 24 #[.val (.ref o0), .val (.ref o1)] [(.int (1 : Int32))])) _
          refine XS.goto X13.here hx rfl (pc0 := 24) (pc' := 28) rfl (hb hby d8_24) (by decide) (by decide) ?_
          show Steps p.tables e below (T13.setTop (mkF m 28 #[.val (.ref o0), .val (.ref o1)] [(.int (1 : Int32))])) _
          exact Steps.refl _)
        exact ⟨T13, _, (1 : Int32), X13, e13, N0, (by rw [if_pos hc9, if_pos hc20]), K15⟩
      · have K16 : Steps p.tables e below _ (T13.setTop (mkF m 28 #[.val (.ref o0), .val (.ref o1)] [(.int (0 : Int32))])) := K14.trans (by
          show Steps p.tables e below (T13.setTop (mkF m 20 #[.val (.ref o0), .val (.ref o1)] [(.int w5_relativeOffset), (.int w4_relativeOffset)])) _
          refine XS.icmpYes X13.here hx rfl (pc0 := 20) (pc' := 27) rfl (hb hby d8_20) rfl (flt hc20).2.2.2 (by decide) (by decide) ?_
          show Steps p.tables e below (T13.setTop (mkF m 27 #[.val (.ref o0), .val (.ref o1)] [])) _
          refine XS.iconst X13.here hx rfl (hb hby d8_27) ?_
          show Steps p.tables e below (T13.setTop (mkF m 28 #[.val (.ref o0), .val (.ref o1)] [(.int (0 : Int32))])) _
          exact Steps.refl _)
        exact ⟨T13, _, (0 : Int32), X13, e13, N0, (by rw [if_pos hc9, if_neg hc20]), K16⟩
    · have K17 : Steps p.tables e below _ (T5.setTop (mkF m 28 #[.val (.ref o0), .val (.ref o1)] [(.int (0 : Int32))])) := R8.trans (by
        show Steps p.tables e below (T5.setTop (mkF m 9 #[.val (.ref o0), .val (.ref o1)] [(.int (lcmpW w2_timestamp w3_timestamp))])) _
        refine XS.ifYes X5.here hx rfl (pc0 := 9) (pc' := 27) rfl (hb hby d8_9) rfl ((if0 _ _).trans (flt (fun z => hc9 ((lw_gt w2_timestamp w3_timestamp).mp z))).2.2.2) (by decide) (by decide) ?_
        show Steps p.tables e below (T5.setTop (mkF m 27 #[.val (.ref o0), .val (.ref o1)] [])) _
        refine XS.iconst X5.here hx rfl (hb hby d8_27) ?_
        show Steps p.tables e below (T5.setTop (mkF m 28 #[.val (.ref o0), .val (.ref o1)] [(.int (0 : Int32))])) _
        exact Steps.refl _)
      exact ⟨T5, _, (0 : Int32), X5, e5, N0, (by rw [if_neg hc9]), K17⟩
  have K18 := K7.trans S8
  subst hv8_0
  obtain ⟨fs, hr, hrun, hended, hW, hsame⟩ := X8.leave (v := some (.int ((if w3_timestamp < w2_timestamp then (if w5_relativeOffset < w4_relativeOffset then (1 : Int32) else (0 : Int32)) else (0 : Int32)) &&& 1))) (fun h => by rw [Bd.returns] at h; cases h)
  refine ⟨_, _, K18.trans (retN X8 hx (t := .boolean) Bd.returns (by simp) (hb hby d8_28) hr), hrun, hended, _, _, rfl, ?_, ⟨_, rfl⟩, hW, hsame.mono (by decide) (by first | decide | omega)⟩
  show Q_rm8 Z o0 o1 w2_timestamp w3_timestamp w4_relativeOffset w5_relativeOffset h0 n0 _ T8.heap _
  rw [e8]
  exact ⟨rfl, N8, rfl⟩
theorem pd_1 : parseMethodDescriptor "(IJJ)J" = some ⟨[.int, .long, .long], some .long⟩ := by decide +kernel
theorem pd_2 : parseMethodDescriptor "(III)I" = some ⟨[.int, .int, .int], some .int⟩ := by decide +kernel
theorem pd_3 : parseMethodDescriptor "(JI)V" = some ⟨[.long, .int], none⟩ := by decide +kernel
theorem pd_4 : parseMethodDescriptor "(JJ)J" = some ⟨[.long, .long], some .long⟩ := by decide +kernel
theorem pd_5 : parseMethodDescriptor "(II)I" = some ⟨[.int, .int], some .int⟩ := by decide +kernel
theorem pd_6 : parseMethodDescriptor "(Lcom/example/modest_log/modestlog/log/TimeIndexEntry;)Z" = some ⟨[(.object "com/example/modest_log/modestlog/log/TimeIndexEntry")], some .boolean⟩ := by decide +kernel
def Q_rm0 (n0 : Nat) (v : Option Value) (L : List Loc) : Prop := v = some (.int 1) ∧ Fr n0 L
theorem pn_0 : plainName "com/example/modest_log/modestlog/log/TimeIndexEntryFollowsPinLaw" = true := by first | (simp [plainName, overriddenIn]; done) | decide +kernel
theorem ef_0 (m : MethodId) (x0 : Int64) (x1 : Int32) (x2 : Int64) (x3 : Int32) (x4 : Int32) : entryFrame m #[(.long x0), (.int x1), (.long x2), (.int x3), (.int x4)] maxLocals = mkF m 0 #[.val (.long x0), .second, .val (.int x1), .val (.long x2), .second, .val (.int x3), .val (.int x4), .unset, .unset, .unset, .unset, .unset, .unset, .unset, .unset, .unset, .unset, .unset] [] := by first | (simp [entryFrame, mkF, argsToLocals, Value.category, maxLocals]; done) | rfl
set_option maxRecDepth 65536 in
set_option maxHeartbeats 4000000 in
theorem own_law_0 (q0 : Int64) (p1 : Int32) (q2 : Int64) (p3 : Int32) (p4 : Int32) (r3 : Int64) (r7 : Int32) (r27 : Int64) (v30_0 : Int32) (r38 : Int32) (v41_0 : Int32) (v48_0 : Int32) (r59 : Int32) (r63 : Int32) (r67 : Int32) (v70_0 : Int32) (hr3 : (f_rm1 (p4 &&& (3 : Int32)) q0 q2) = r3) (hr7 : (f_rm2 (((p4.toUInt32 >>> ((2 : Int32) &&& 31).toUInt32).toInt32) &&& (3 : Int32)) p1 p3) = r7) (hr27 : (if q0 < r3 then r3 else q0) = r27) (hv30_0 : (if r27 = q0 then (if q0 = r3 then (0 : Int32) else (1 : Int32)) else (0 : Int32)) = v30_0) (hr38 : (if p1 < r7 then r7 else p1) = r38) (hv41_0 : (if r38 = p1 then (if p1 = r7 then (0 : Int32) else (1 : Int32)) else (0 : Int32)) = v41_0) (hv48_0 : (if v30_0 = (0 : Int32) then (0 : Int32) else (if v41_0 = (0 : Int32) then (0 : Int32) else (1 : Int32))) = v48_0) (hr59 : ((if r3 < q0 then (if r7 < p1 then (1 : Int32) else (0 : Int32)) else (0 : Int32)) &&& 1) = r59) (hr63 : ((if q0 < r3 then (if p1 < r7 then (1 : Int32) else (0 : Int32)) else (0 : Int32)) &&& 1) = r63) (hr67 : ((if q0 < q0 then (if p1 < p1 then (1 : Int32) else (0 : Int32)) else (0 : Int32)) &&& 1) = r67) (hv70_0 : (if r59 = v48_0 then (if r59 = (0 : Int32) then (if r67 = (0 : Int32) then (1 : Int32) else (0 : Int32)) else (if r63 = (0 : Int32) then (if r67 = (0 : Int32) then (1 : Int32) else (0 : Int32)) else (0 : Int32))) else (0 : Int32)) = v70_0) : (v70_0 &&& 1) = (1 : Int32) := by
  clear hr3 hr7
  have h67 : r67 = (0 : Int32) := by rw [← hr67, if_neg Int64.lt_irrefl]; rfl
  have h30 : v30_0 = (if r3 < q0 then (1 : Int32) else (0 : Int32)) := by
    rw [← hv30_0, ← hr27]
    rcases own_tri64 r3 q0 with ⟨a, b, c, d⟩ | ⟨a, b, c, d⟩ | a
    · simp only [a, b, c, d, if_true, if_false]
    · simp only [a, b, c, d, if_true, if_false]
    · subst a; simp only [Int64.lt_irrefl, if_true, if_false]
  have h41 : v41_0 = (if r7 < p1 then (1 : Int32) else (0 : Int32)) := by
    rw [← hv41_0, ← hr38]
    rcases own_tri32 r7 p1 with ⟨a, b, c, d⟩ | ⟨a, b, c, d⟩ | a
    · simp only [a, b, c, d, if_true, if_false]
    · simp only [a, b, c, d, if_true, if_false]
    · subst a; simp only [Int32.lt_irrefl, if_true, if_false]
  have hx1 : r3 < q0 → ¬ q0 < r3 := fun a b => by rw [own_lt64] at a b; omega
  clear hv30_0 hr27 hv41_0 hr38 hr67
  subst h67 h30 h41
  by_cases a : r3 < q0
  · have b := hx1 a
    by_cases c : r7 < p1 <;> simp only [a, b, c, if_true, if_false] at hv48_0 hr59 hr63 <;> subst hv48_0 hr59 hr63 hv70_0 <;> decide
  · by_cases c : r7 < p1 <;> by_cases d : q0 < r3 <;> by_cases e : p1 < r7 <;> simp only [a, c, d, e, if_true, if_false] at hv48_0 hr59 hr63 <;> subst hv48_0 hr59 hr63 hv70_0 <;> decide
set_option maxRecDepth 65536 in
set_option maxHeartbeats 40000000 in
theorem rm0 (l : Launch) (Z : State) (a0 : Array Value) (hw : ∀ d ∈ tables_1, d.before a0 Z = true) (ws : List Jvm.Cond) (q0 : Int64) (p1 : Int32) (q2 : Int64) (p3 : Int32) (p4 : Int32) (h0 : Heap) (n0 : Nat) (Z0 : n0 ≤ h0.size) :
    MetFree l x (head1 (Jvm.Cond.code x code maxLocals ret :: ws) room_1) (fun a U => a = #[(.long q0), (.int p1), (.long q2), (.int p3), (.int p4)] ∧ Z.Warmed39 U.vm ∧ U.heap = h0) (fun _ _ _ _ _ => True) (fun _ U o U' => ∃ v L, o = .returned v ∧ Q_rm0 n0 v L ∧ FrameEnd U o U' L 2 4) := by
  refine MetFree.of_bodySF (plainFor_of_name pn_0) hisR ?_
  intro p e s m args below meth c s₁ Bd hml0 hP hK
  obtain ⟨rfl, hZ, hh⟩ := hP
  have hx := Bd.exec
  have hby := Bd.bytes
  have hml : c.maxLocals = 18 := hml0
  have hown : s.vm.findClass "com/example/modest_log/modestlog/log/TimeIndexEntryFollowsPinLaw" = some m.cls := findClass_of_methodNamed Bd.named
  have hnm := (name_of_methodNamed Bd.named Bd.method).1
  have X0 : Stand p l e room_1 s m #[(.long q0), (.int p1), (.long q2), (.int p3), (.int p4)] below meth c s₁ [] 0 0 := Stand.of_body Bd
  have e0 : s₁.heap = h0 := by rw [← hh, Bd.state]; rfl
  have N0 := Fr.nil n0
  have K0 : Steps p.tables e below (s₁.setTop (entryFrame m #[(.long q0), (.int p1), (.long q2), (.int p3), (.int p4)] maxLocals)) (s₁.setTop (mkF m 0 #[.val (.long q0), .second, .val (.int p1), .val (.long q2), .second, .val (.int p3), .val (.int p4), .unset, .unset, .unset, .unset, .unset, .unset, .unset, .unset, .unset, .unset, .unset] [])) := castTop (ef_0 m q0 p1 q2 p3 p4) (Steps.refl _)
  have K1 : Steps p.tables e below _ (s₁.setTop (mkF m 6 #[.val (.long q0), .second, .val (.int p1), .val (.long q2), .second, .val (.int p3), .val (.int p4), .unset, .unset, .unset, .unset, .unset, .unset, .unset, .unset, .unset, .unset, .unset] [(.long q2), (.long q0), (.int (p4 &&& (3 : Int32)))])) := K0.trans (by
    show Steps p.tables e below (s₁.setTop (mkF m 0 #[.val (.long q0), .second, .val (.int p1), .val (.long q2), .second, .val (.int p3), .val (.int p4), .unset, .unset, .unset, .unset, .unset, .unset, .unset, .unset, .unset, .unset, .unset] [])) _
    refine XS.iload X0.here hx rfl (hb hby at_0) rfl ?_
    show Steps p.tables e below (s₁.setTop (mkF m 2 #[.val (.long q0), .second, .val (.int p1), .val (.long q2), .second, .val (.int p3), .val (.int p4), .unset, .unset, .unset, .unset, .unset, .unset, .unset, .unset, .unset, .unset, .unset] [(.int p4)])) _
    refine XS.iconst X0.here hx rfl (hb hby at_2) ?_
    show Steps p.tables e below (s₁.setTop (mkF m 3 #[.val (.long q0), .second, .val (.int p1), .val (.long q2), .second, .val (.int p3), .val (.int p4), .unset, .unset, .unset, .unset, .unset, .unset, .unset, .unset, .unset, .unset, .unset] [(.int (3 : Int32)), (.int p4)])) _
    refine XS.iand X0.here hx rfl (hb hby at_3) rfl ?_
    show Steps p.tables e below (s₁.setTop (mkF m 4 #[.val (.long q0), .second, .val (.int p1), .val (.long q2), .second, .val (.int p3), .val (.int p4), .unset, .unset, .unset, .unset, .unset, .unset, .unset, .unset, .unset, .unset, .unset] [(.int (p4 &&& (3 : Int32)))])) _
    refine XS.lloadN X0.here hx rfl (hb hby at_4) rfl ?_
    show Steps p.tables e below (s₁.setTop (mkF m 5 #[.val (.long q0), .second, .val (.int p1), .val (.long q2), .second, .val (.int p3), .val (.int p4), .unset, .unset, .unset, .unset, .unset, .unset, .unset, .unset, .unset, .unset, .unset] [(.long q0), (.int (p4 &&& (3 : Int32)))])) _
    refine XS.lloadN X0.here hx rfl (hb hby at_5) rfl ?_
    show Steps p.tables e below (s₁.setTop (mkF m 6 #[.val (.long q0), .second, .val (.int p1), .val (.long q2), .second, .val (.int p3), .val (.int p4), .unset, .unset, .unset, .unset, .unset, .unset, .unset, .unset, .unset, .unset, .unset] [(.long q2), (.long q0), (.int (p4 &&& (3 : Int32)))])) _
    exact Steps.refl _)
  obtain ⟨_, _, ⟨T2, L2, k2, n2⟩, -, X2, ⟨Lc2, hQ2, l2, y2, z2⟩, st2⟩ := Jvm.LawKit.callS X0 hx (y := (⟨"com/example/modest_log/modestlog/log/TimeIndexEntryFollowsPinLaw", "pickLong", "(IJJ)J"⟩ : MethodName)) hown (mvT hZ (hw _ (List.mem_of_getElem? (i := 0) rfl))) (mvT hZ (hw _ (List.mem_of_getElem? (i := 1) rfl))) (mvT hZ (hw _ (List.mem_of_getElem? (i := 2) rfl))) (mvT hZ (hw _ (List.mem_of_getElem? (i := 3) rfl))) (by decide) (backOf (W := 0) (rm1 l Z a0 hw [] (p4 &&& (3 : Int32)) q0 q2 h0 n0 Z0 ) hZ (hw _ (List.mem_of_getElem? (i := 3) rfl)) (hw _ (List.mem_of_getElem? (i := 2) rfl)) (by decide) (by decide)) (g := (mkF m 6 #[.val (.long q0), .second, .val (.int p1), .val (.long q2), .second, .val (.int p3), .val (.int p4), .unset, .unset, .unset, .unset, .unset, .unset, .unset, .unset, .unset, .unset, .unset] [(.long q2), (.long q0), (.int (p4 &&& (3 : Int32)))])) rfl (by rw [hml]; rfl) (argsL := [(.int (p4 &&& (3 : Int32))), (.long q0), (.long q2)]) (rest := []) (lenOf pd_1 rfl) rfl (by show 2 * 0 + _ ≤ _; exact Nat.le_of_eq rfl) (hb hby at_6) (fun _ _ => ⟨rfl, e0, (by decide : 0 + 0 ≤ _), (by decide : 0 + 0 ≤ _)⟩)
  dsimp only [Pt.U, Pt.locs, Pt.cells, Pt.slots] at X2 l2 y2 z2 st2 hQ2
  subst l2 y2 z2
  obtain ⟨rfl, N2, eh2⟩ := hQ2
  have N2' := Fr.app N0 N2
  have K4 : Steps p.tables e below _ (T2.setTop (mkF m 9 #[.val (.long q0), .second, .val (.int p1), .val (.long q2), .second, .val (.int p3), .val (.int p4), .unset, .unset, .unset, .unset, .unset, .unset, .unset, .unset, .unset, .unset, .unset] [(.long (f_rm1 (p4 &&& (3 : Int32)) q0 q2))])) := K1.trans (st2 _ (Steps.refl _))
  obtain ⟨r3, hr3⟩ : ∃ z : Int64, (f_rm1 (p4 &&& (3 : Int32)) q0 q2) = z := ⟨_, rfl⟩
  rw [hr3] at K4
  have K5 : Steps p.tables e below _ (T2.setTop (mkF m 20 #[.val (.long q0), .second, .val (.int p1), .val (.long q2), .second, .val (.int p3), .val (.int p4), .val (.long r3), .second, .unset, .unset, .unset, .unset, .unset, .unset, .unset, .unset, .unset] [(.int p3), (.int p1), (.int (((p4.toUInt32 >>> ((2 : Int32) &&& 31).toUInt32).toInt32) &&& (3 : Int32)))])) := K4.trans (by
    show Steps p.tables e below (T2.setTop (mkF m 9 #[.val (.long q0), .second, .val (.int p1), .val (.long q2), .second, .val (.int p3), .val (.int p4), .unset, .unset, .unset, .unset, .unset, .unset, .unset, .unset, .unset, .unset, .unset] [(.long r3)])) _
    refine XS.lstore X2.here hx rfl (hb hby at_9) rfl (l' := #[.val (.long q0), .second, .val (.int p1), .val (.long q2), .second, .val (.int p3), .val (.int p4), .val (.long r3), .second, .unset, .unset, .unset, .unset, .unset, .unset, .unset, .unset, .unset]) rfl ?_
    show Steps p.tables e below (T2.setTop (mkF m 11 #[.val (.long q0), .second, .val (.int p1), .val (.long q2), .second, .val (.int p3), .val (.int p4), .val (.long r3), .second, .unset, .unset, .unset, .unset, .unset, .unset, .unset, .unset, .unset] [])) _
    refine XS.iload X2.here hx rfl (hb hby at_11) rfl ?_
    show Steps p.tables e below (T2.setTop (mkF m 13 #[.val (.long q0), .second, .val (.int p1), .val (.long q2), .second, .val (.int p3), .val (.int p4), .val (.long r3), .second, .unset, .unset, .unset, .unset, .unset, .unset, .unset, .unset, .unset] [(.int p4)])) _
    refine XS.iconst X2.here hx rfl (hb hby at_13) ?_
    show Steps p.tables e below (T2.setTop (mkF m 14 #[.val (.long q0), .second, .val (.int p1), .val (.long q2), .second, .val (.int p3), .val (.int p4), .val (.long r3), .second, .unset, .unset, .unset, .unset, .unset, .unset, .unset, .unset, .unset] [(.int (2 : Int32)), (.int p4)])) _
    refine XS.iushr X2.here hx rfl (hb hby at_14) rfl ?_
    show Steps p.tables e below (T2.setTop (mkF m 15 #[.val (.long q0), .second, .val (.int p1), .val (.long q2), .second, .val (.int p3), .val (.int p4), .val (.long r3), .second, .unset, .unset, .unset, .unset, .unset, .unset, .unset, .unset, .unset] [(.int ((p4.toUInt32 >>> ((2 : Int32) &&& 31).toUInt32).toInt32))])) _
    refine XS.iconst X2.here hx rfl (hb hby at_15) ?_
    show Steps p.tables e below (T2.setTop (mkF m 16 #[.val (.long q0), .second, .val (.int p1), .val (.long q2), .second, .val (.int p3), .val (.int p4), .val (.long r3), .second, .unset, .unset, .unset, .unset, .unset, .unset, .unset, .unset, .unset] [(.int (3 : Int32)), (.int ((p4.toUInt32 >>> ((2 : Int32) &&& 31).toUInt32).toInt32))])) _
    refine XS.iand X2.here hx rfl (hb hby at_16) rfl ?_
    show Steps p.tables e below (T2.setTop (mkF m 17 #[.val (.long q0), .second, .val (.int p1), .val (.long q2), .second, .val (.int p3), .val (.int p4), .val (.long r3), .second, .unset, .unset, .unset, .unset, .unset, .unset, .unset, .unset, .unset] [(.int (((p4.toUInt32 >>> ((2 : Int32) &&& 31).toUInt32).toInt32) &&& (3 : Int32)))])) _
    refine XS.iloadN X2.here hx rfl (hb hby at_17) rfl ?_
    show Steps p.tables e below (T2.setTop (mkF m 18 #[.val (.long q0), .second, .val (.int p1), .val (.long q2), .second, .val (.int p3), .val (.int p4), .val (.long r3), .second, .unset, .unset, .unset, .unset, .unset, .unset, .unset, .unset, .unset] [(.int p1), (.int (((p4.toUInt32 >>> ((2 : Int32) &&& 31).toUInt32).toInt32) &&& (3 : Int32)))])) _
    refine XS.iload X2.here hx rfl (hb hby at_18) rfl ?_
    show Steps p.tables e below (T2.setTop (mkF m 20 #[.val (.long q0), .second, .val (.int p1), .val (.long q2), .second, .val (.int p3), .val (.int p4), .val (.long r3), .second, .unset, .unset, .unset, .unset, .unset, .unset, .unset, .unset, .unset] [(.int p3), (.int p1), (.int (((p4.toUInt32 >>> ((2 : Int32) &&& 31).toUInt32).toInt32) &&& (3 : Int32)))])) _
    exact Steps.refl _)
  obtain ⟨_, _, ⟨T6, L6, k6, n6⟩, -, X6, ⟨Lc6, hQ6, l6, y6, z6⟩, st6⟩ := Jvm.LawKit.callS X2 hx (y := (⟨"com/example/modest_log/modestlog/log/TimeIndexEntryFollowsPinLaw", "pickInt", "(III)I"⟩ : MethodName)) hown (mvT hZ (hw _ (List.mem_of_getElem? (i := 4) rfl))) (mvT hZ (hw _ (List.mem_of_getElem? (i := 5) rfl))) (mvT hZ (hw _ (List.mem_of_getElem? (i := 2) rfl))) (mvT hZ (hw _ (List.mem_of_getElem? (i := 6) rfl))) (by decide) (backOf (W := 0) (rm2 l Z a0 hw [] (((p4.toUInt32 >>> ((2 : Int32) &&& 31).toUInt32).toInt32) &&& (3 : Int32)) p1 p3 h0 n0 Z0 ) hZ (hw _ (List.mem_of_getElem? (i := 6) rfl)) (hw _ (List.mem_of_getElem? (i := 2) rfl)) (by decide) (by decide)) (g := (mkF m 20 #[.val (.long q0), .second, .val (.int p1), .val (.long q2), .second, .val (.int p3), .val (.int p4), .val (.long r3), .second, .unset, .unset, .unset, .unset, .unset, .unset, .unset, .unset, .unset] [(.int p3), (.int p1), (.int (((p4.toUInt32 >>> ((2 : Int32) &&& 31).toUInt32).toInt32) &&& (3 : Int32)))])) rfl (by rw [hml]; rfl) (argsL := [(.int (((p4.toUInt32 >>> ((2 : Int32) &&& 31).toUInt32).toInt32) &&& (3 : Int32))), (.int p1), (.int p3)]) (rest := []) (lenOf pd_2 rfl) rfl (by show 2 * 0 + _ ≤ _; exact Nat.le_of_eq rfl) (hb hby at_20) (fun _ _ => ⟨rfl, eh2, (by decide : 0 + 0 ≤ _), (by decide : 0 + 0 ≤ _)⟩)
  dsimp only [Pt.U, Pt.locs, Pt.cells, Pt.slots] at X6 l6 y6 z6 st6 hQ6
  subst l6 y6 z6
  obtain ⟨rfl, N6, eh6⟩ := hQ6
  have N6' := Fr.app N2' N6
  have K8 : Steps p.tables e below _ (T6.setTop (mkF m 23 #[.val (.long q0), .second, .val (.int p1), .val (.long q2), .second, .val (.int p3), .val (.int p4), .val (.long r3), .second, .unset, .unset, .unset, .unset, .unset, .unset, .unset, .unset, .unset] [(.int (f_rm2 (((p4.toUInt32 >>> ((2 : Int32) &&& 31).toUInt32).toInt32) &&& (3 : Int32)) p1 p3))])) := K5.trans (st6 _ (Steps.refl _))
  obtain ⟨r7, hr7⟩ : ∃ z : Int32, (f_rm2 (((p4.toUInt32 >>> ((2 : Int32) &&& 31).toUInt32).toInt32) &&& (3 : Int32)) p1 p3) = z := ⟨_, rfl⟩
  rw [hr7] at K8
  have K9 : Steps p.tables e below _ (T6.setTop (mkF m 25 #[.val (.long q0), .second, .val (.int p1), .val (.long q2), .second, .val (.int p3), .val (.int p4), .val (.long r3), .second, .val (.int r7), .unset, .unset, .unset, .unset, .unset, .unset, .unset, .unset] [])) := K8.trans (by
    show Steps p.tables e below (T6.setTop (mkF m 23 #[.val (.long q0), .second, .val (.int p1), .val (.long q2), .second, .val (.int p3), .val (.int p4), .val (.long r3), .second, .unset, .unset, .unset, .unset, .unset, .unset, .unset, .unset, .unset] [(.int r7)])) _
    refine XS.istore X6.here hx rfl (hb hby at_23) rfl (l' := #[.val (.long q0), .second, .val (.int p1), .val (.long q2), .second, .val (.int p3), .val (.int p4), .val (.long r3), .second, .val (.int r7), .unset, .unset, .unset, .unset, .unset, .unset, .unset, .unset]) rfl ?_
    show Steps p.tables e below (T6.setTop (mkF m 25 #[.val (.long q0), .second, .val (.int p1), .val (.long q2), .second, .val (.int p3), .val (.int p4), .val (.long r3), .second, .val (.int r7), .unset, .unset, .unset, .unset, .unset, .unset, .unset, .unset] [])) _
    exact Steps.refl _)
  obtain ⟨T10, h10, X10, e10, E10, A10, D10, -, st10⟩ := newO X6 hx hZ hown (hw _ (List.mem_of_getElem? (i := 7) rfl)) (hw _ (List.mem_of_getElem? (i := 8) rfl)) (hw _ (List.mem_of_getElem? (i := 9) rfl)) eh6 (g := (mkF m 25 #[.val (.long q0), .second, .val (.int p1), .val (.long q2), .second, .val (.int p3), .val (.int p4), .val (.long r3), .second, .val (.int r7), .unset, .unset, .unset, .unset, .unset, .unset, .unset, .unset] [])) rfl (hb hby at_25) (by decide) (by decide)
  obtain ⟨b10, g10⟩ : ∃ z, z = h0.size := ⟨_, rfl⟩
  rw [← g10] at A10 D10 st10
  have ge_b10 : n0 ≤ b10 := Nat.le_trans Z0 (Nat.le_of_eq g10.symm)
  have K11 : Steps p.tables e below _ (T10.setTop (mkF m 28 #[.val (.long q0), .second, .val (.int p1), .val (.long q2), .second, .val (.int p3), .val (.int p4), .val (.long r3), .second, .val (.int r7), .unset, .unset, .unset, .unset, .unset, .unset, .unset, .unset] [(.ref b10)])) := K9.trans (st10 _ (Steps.refl _))
  have F10_timestamp : Fld Z h10 b10 "com/example/modest_log/modestlog/log/TimeIndexEntry" "timestamp" "J" (.long (0 : Int64)) := D10 (Or.inr (hw _ (List.mem_of_getElem? (i := 22) rfl))) (ty := .long) (by decide)
  have F10_relativeOffset : Fld Z h10 b10 "com/example/modest_log/modestlog/log/TimeIndexEntry" "relativeOffset" "I" (.int (0 : Int32)) := D10 (Or.inr (hw _ (List.mem_of_getElem? (i := 24) rfl))) (ty := .int) (by decide)
  have K12 : Steps p.tables e below _ (T10.setTop (mkF m 31 #[.val (.long q0), .second, .val (.int p1), .val (.long q2), .second, .val (.int p3), .val (.int p4), .val (.long r3), .second, .val (.int r7), .unset, .unset, .unset, .unset, .unset, .unset, .unset, .unset] [(.int p1), (.long q0), (.ref b10), (.ref b10)])) := K11.trans (by
    show Steps p.tables e below (T10.setTop (mkF m 28 #[.val (.long q0), .second, .val (.int p1), .val (.long q2), .second, .val (.int p3), .val (.int p4), .val (.long r3), .second, .val (.int r7), .unset, .unset, .unset, .unset, .unset, .unset, .unset, .unset] [(.ref b10)])) _
    refine XS.dup X10.here hx rfl (hb hby at_28) rfl rfl ?_
    show Steps p.tables e below (T10.setTop (mkF m 29 #[.val (.long q0), .second, .val (.int p1), .val (.long q2), .second, .val (.int p3), .val (.int p4), .val (.long r3), .second, .val (.int r7), .unset, .unset, .unset, .unset, .unset, .unset, .unset, .unset] [(.ref b10), (.ref b10)])) _
    refine XS.lloadN X10.here hx rfl (hb hby at_29) rfl ?_
    show Steps p.tables e below (T10.setTop (mkF m 30 #[.val (.long q0), .second, .val (.int p1), .val (.long q2), .second, .val (.int p3), .val (.int p4), .val (.long r3), .second, .val (.int r7), .unset, .unset, .unset, .unset, .unset, .unset, .unset, .unset] [(.long q0), (.ref b10), (.ref b10)])) _
    refine XS.iloadN X10.here hx rfl (hb hby at_30) rfl ?_
    show Steps p.tables e below (T10.setTop (mkF m 31 #[.val (.long q0), .second, .val (.int p1), .val (.long q2), .second, .val (.int p3), .val (.int p4), .val (.long r3), .second, .val (.int r7), .unset, .unset, .unset, .unset, .unset, .unset, .unset, .unset] [(.int p1), (.long q0), (.ref b10), (.ref b10)])) _
    exact Steps.refl _)
  have Z_13 : n0 ≤ h10.size := (Nat.le_trans Z0 E10.1)
  obtain ⟨_, _, ⟨T14, L14, k14, n14⟩, -, X14, ⟨Lc14, hQ14, l14, y14, z14⟩, st14⟩ := X10.specialBack hx (y := (⟨"com/example/modest_log/modestlog/log/TimeIndexEntry", "<init>", "(JI)V"⟩ : MethodName)) rfl hown (mvT hZ (hw _ (List.mem_of_getElem? (i := 10) rfl))) (mvT hZ (hw _ (List.mem_of_getElem? (i := 11) rfl))) (mvT hZ (hw _ (List.mem_of_getElem? (i := 12) rfl))) (by decide) (backOf (W := 1) (rm3 l Z a0 hw [] b10 q0 p1 (.long (0 : Int64)) (.int (0 : Int32)) h10 n0 Z_13 ge_b10 A10 F10_timestamp F10_relativeOffset) hZ (hw _ (List.mem_of_getElem? (i := 12) rfl)) (hw _ (List.mem_of_getElem? (i := 9) rfl)) (by decide) (by decide)) (g := (mkF m 31 #[.val (.long q0), .second, .val (.int p1), .val (.long q2), .second, .val (.int p3), .val (.int p4), .val (.long r3), .second, .val (.int r7), .unset, .unset, .unset, .unset, .unset, .unset, .unset, .unset] [(.int p1), (.long q0), (.ref b10), (.ref b10)])) rfl (by rw [hml]; rfl) K12 (a := b10) (argsL := [(.long q0), (.int p1)]) (rest := [(.ref b10)]) (lenOf pd_3 rfl) rfl (by show 2 * 0 + _ ≤ _; exact Nat.le_of_eq rfl) (hb hby at_31) (fun _ _ => ⟨rfl, e10, (by decide : 1 + 0 ≤ _), (by decide : 2 + 0 ≤ _)⟩)
  dsimp only [Pt.U, Pt.locs, Pt.cells, Pt.slots] at X14 l14 y14 z14 st14 hQ14
  subst l14 y14 z14
  obtain ⟨rfl, N14, Kp14, Q14_0, Q14_1, Q14_2⟩ := hQ14
  have N14' := Fr.app N6' N14
  have K15 : Steps p.tables e below _ (T14.setTop (mkF m 34 #[.val (.long q0), .second, .val (.int p1), .val (.long q2), .second, .val (.int p3), .val (.int p4), .val (.long r3), .second, .val (.int r7), .unset, .unset, .unset, .unset, .unset, .unset, .unset, .unset] [(.ref b10)])) := st14
  have K16 : Steps p.tables e below _ (T14.setTop (mkF m 36 #[.val (.long q0), .second, .val (.int p1), .val (.long q2), .second, .val (.int p3), .val (.int p4), .val (.long r3), .second, .val (.int r7), .val (.ref b10), .unset, .unset, .unset, .unset, .unset, .unset, .unset] [])) := K15.trans (by
    show Steps p.tables e below (T14.setTop (mkF m 34 #[.val (.long q0), .second, .val (.int p1), .val (.long q2), .second, .val (.int p3), .val (.int p4), .val (.long r3), .second, .val (.int r7), .unset, .unset, .unset, .unset, .unset, .unset, .unset, .unset] [(.ref b10)])) _
    refine XS.astore X14.here hx rfl (hb hby at_34) rfl rfl (l' := #[.val (.long q0), .second, .val (.int p1), .val (.long q2), .second, .val (.int p3), .val (.int p4), .val (.long r3), .second, .val (.int r7), .val (.ref b10), .unset, .unset, .unset, .unset, .unset, .unset, .unset]) rfl ?_
    show Steps p.tables e below (T14.setTop (mkF m 36 #[.val (.long q0), .second, .val (.int p1), .val (.long q2), .second, .val (.int p3), .val (.int p4), .val (.long r3), .second, .val (.int r7), .val (.ref b10), .unset, .unset, .unset, .unset, .unset, .unset, .unset] [])) _
    exact Steps.refl _)
  have Z_18 : n0 ≤ T14.heap.size := (Nat.le_trans Z_13 Kp14.1)
  obtain ⟨T17, h17, X17, e17, E17, A17, D17, -, st17⟩ := newO X14 hx hZ hown (hw _ (List.mem_of_getElem? (i := 7) rfl)) (hw _ (List.mem_of_getElem? (i := 8) rfl)) (hw _ (List.mem_of_getElem? (i := 9) rfl)) rfl (g := (mkF m 36 #[.val (.long q0), .second, .val (.int p1), .val (.long q2), .second, .val (.int p3), .val (.int p4), .val (.long r3), .second, .val (.int r7), .val (.ref b10), .unset, .unset, .unset, .unset, .unset, .unset, .unset] [])) rfl (hb hby at_36) (by decide) (by decide)
  obtain ⟨b17, g17⟩ : ∃ z, z = T14.heap.size := ⟨_, rfl⟩
  rw [← g17] at A17 D17 st17
  have ne_b10_b17 : b10 ≠ b17 := Nat.ne_of_lt (Nat.lt_of_lt_of_le Q14_0.lt (Nat.le_of_eq g17.symm))
  have ge_b17 : n0 ≤ b17 := Nat.le_trans Z_18 (Nat.le_of_eq g17.symm)
  have K19 : Steps p.tables e below _ (T17.setTop (mkF m 39 #[.val (.long q0), .second, .val (.int p1), .val (.long q2), .second, .val (.int p3), .val (.int p4), .val (.long r3), .second, .val (.int r7), .val (.ref b10), .unset, .unset, .unset, .unset, .unset, .unset, .unset] [(.ref b17)])) := K16.trans (st17 _ (Steps.refl _))
  have F17_timestamp : Fld Z h17 b17 "com/example/modest_log/modestlog/log/TimeIndexEntry" "timestamp" "J" (.long (0 : Int64)) := D17 (Or.inr (hw _ (List.mem_of_getElem? (i := 22) rfl))) (ty := .long) (by decide)
  have F17_relativeOffset : Fld Z h17 b17 "com/example/modest_log/modestlog/log/TimeIndexEntry" "relativeOffset" "I" (.int (0 : Int32)) := D17 (Or.inr (hw _ (List.mem_of_getElem? (i := 24) rfl))) (ty := .int) (by decide)
  have K20 : Steps p.tables e below _ (T17.setTop (mkF m 44 #[.val (.long q0), .second, .val (.int p1), .val (.long q2), .second, .val (.int p3), .val (.int p4), .val (.long r3), .second, .val (.int r7), .val (.ref b10), .unset, .unset, .unset, .unset, .unset, .unset, .unset] [(.int r7), (.long r3), (.ref b17), (.ref b17)])) := K19.trans (by
    show Steps p.tables e below (T17.setTop (mkF m 39 #[.val (.long q0), .second, .val (.int p1), .val (.long q2), .second, .val (.int p3), .val (.int p4), .val (.long r3), .second, .val (.int r7), .val (.ref b10), .unset, .unset, .unset, .unset, .unset, .unset, .unset] [(.ref b17)])) _
    refine XS.dup X17.here hx rfl (hb hby at_39) rfl rfl ?_
    show Steps p.tables e below (T17.setTop (mkF m 40 #[.val (.long q0), .second, .val (.int p1), .val (.long q2), .second, .val (.int p3), .val (.int p4), .val (.long r3), .second, .val (.int r7), .val (.ref b10), .unset, .unset, .unset, .unset, .unset, .unset, .unset] [(.ref b17), (.ref b17)])) _
    refine XS.lload X17.here hx rfl (hb hby at_40) rfl ?_
    show Steps p.tables e below (T17.setTop (mkF m 42 #[.val (.long q0), .second, .val (.int p1), .val (.long q2), .second, .val (.int p3), .val (.int p4), .val (.long r3), .second, .val (.int r7), .val (.ref b10), .unset, .unset, .unset, .unset, .unset, .unset, .unset] [(.long r3), (.ref b17), (.ref b17)])) _
    refine XS.iload X17.here hx rfl (hb hby at_42) rfl ?_
    show Steps p.tables e below (T17.setTop (mkF m 44 #[.val (.long q0), .second, .val (.int p1), .val (.long q2), .second, .val (.int p3), .val (.int p4), .val (.long r3), .second, .val (.int r7), .val (.ref b10), .unset, .unset, .unset, .unset, .unset, .unset, .unset] [(.int r7), (.long r3), (.ref b17), (.ref b17)])) _
    exact Steps.refl _)
  have Z_21 : n0 ≤ h17.size := (Nat.le_trans Z_18 E17.1)
  obtain ⟨_, _, ⟨T22, L22, k22, n22⟩, -, X22, ⟨Lc22, hQ22, l22, y22, z22⟩, st22⟩ := X17.specialBack hx (y := (⟨"com/example/modest_log/modestlog/log/TimeIndexEntry", "<init>", "(JI)V"⟩ : MethodName)) rfl hown (mvT hZ (hw _ (List.mem_of_getElem? (i := 10) rfl))) (mvT hZ (hw _ (List.mem_of_getElem? (i := 11) rfl))) (mvT hZ (hw _ (List.mem_of_getElem? (i := 12) rfl))) (by decide) (backOf (W := 1) (rm3 l Z a0 hw [] b17 r3 r7 (.long (0 : Int64)) (.int (0 : Int32)) h17 n0 Z_21 ge_b17 A17 F17_timestamp F17_relativeOffset) hZ (hw _ (List.mem_of_getElem? (i := 12) rfl)) (hw _ (List.mem_of_getElem? (i := 9) rfl)) (by decide) (by decide)) (g := (mkF m 44 #[.val (.long q0), .second, .val (.int p1), .val (.long q2), .second, .val (.int p3), .val (.int p4), .val (.long r3), .second, .val (.int r7), .val (.ref b10), .unset, .unset, .unset, .unset, .unset, .unset, .unset] [(.int r7), (.long r3), (.ref b17), (.ref b17)])) rfl (by rw [hml]; rfl) K20 (a := b17) (argsL := [(.long r3), (.int r7)]) (rest := [(.ref b17)]) (lenOf pd_3 rfl) rfl (by show 2 * 0 + _ ≤ _; exact Nat.le_of_eq rfl) (hb hby at_44) (fun _ _ => ⟨rfl, e17, (by decide : 2 + 0 ≤ _), (by decide : 4 + 0 ≤ _)⟩)
  dsimp only [Pt.U, Pt.locs, Pt.cells, Pt.slots] at X22 l22 y22 z22 st22 hQ22
  subst l22 y22 z22
  obtain ⟨rfl, N22, Kp22, Q22_0, Q22_1, Q22_2⟩ := hQ22
  have N22' := Fr.app N14' N22
  have K23 : Steps p.tables e below _ (T22.setTop (mkF m 47 #[.val (.long q0), .second, .val (.int p1), .val (.long q2), .second, .val (.int p3), .val (.int p4), .val (.long r3), .second, .val (.int r7), .val (.ref b10), .unset, .unset, .unset, .unset, .unset, .unset, .unset] [(.ref b17)])) := st22
  have K24 : Steps p.tables e below _ (T22.setTop (mkF m 52 #[.val (.long q0), .second, .val (.int p1), .val (.long q2), .second, .val (.int p3), .val (.int p4), .val (.long r3), .second, .val (.int r7), .val (.ref b10), .val (.ref b17), .unset, .unset, .unset, .unset, .unset, .unset] [(.long r3), (.long q0)])) := K23.trans (by
    show Steps p.tables e below (T22.setTop (mkF m 47 #[.val (.long q0), .second, .val (.int p1), .val (.long q2), .second, .val (.int p3), .val (.int p4), .val (.long r3), .second, .val (.int r7), .val (.ref b10), .unset, .unset, .unset, .unset, .unset, .unset, .unset] [(.ref b17)])) _
    refine XS.astore X22.here hx rfl (hb hby at_47) rfl rfl (l' := #[.val (.long q0), .second, .val (.int p1), .val (.long q2), .second, .val (.int p3), .val (.int p4), .val (.long r3), .second, .val (.int r7), .val (.ref b10), .val (.ref b17), .unset, .unset, .unset, .unset, .unset, .unset]) rfl ?_
    show Steps p.tables e below (T22.setTop (mkF m 49 #[.val (.long q0), .second, .val (.int p1), .val (.long q2), .second, .val (.int p3), .val (.int p4), .val (.long r3), .second, .val (.int r7), .val (.ref b10), .val (.ref b17), .unset, .unset, .unset, .unset, .unset, .unset] [])) _
    refine XS.lloadN X22.here hx rfl (hb hby at_49) rfl ?_
    show Steps p.tables e below (T22.setTop (mkF m 50 #[.val (.long q0), .second, .val (.int p1), .val (.long q2), .second, .val (.int p3), .val (.int p4), .val (.long r3), .second, .val (.int r7), .val (.ref b10), .val (.ref b17), .unset, .unset, .unset, .unset, .unset, .unset] [(.long q0)])) _
    refine XS.lload X22.here hx rfl (hb hby at_50) rfl ?_
    show Steps p.tables e below (T22.setTop (mkF m 52 #[.val (.long q0), .second, .val (.int p1), .val (.long q2), .second, .val (.int p3), .val (.int p4), .val (.long r3), .second, .val (.int r7), .val (.ref b10), .val (.ref b17), .unset, .unset, .unset, .unset, .unset, .unset] [(.long r3), (.long q0)])) _
    exact Steps.refl _)
  have Z_25 : n0 ≤ T22.heap.size := (Nat.le_trans Z_21 Kp22.1)
  obtain ⟨_, _, ⟨T26, L26, k26, n26⟩, -, X26, ⟨Lc26, hQ26, l26, y26, z26⟩, st26⟩ := Jvm.LawKit.callS X22 hx (y := (⟨"java/lang/Math", "max", "(JJ)J"⟩ : MethodName)) hown (mvT hZ (hw _ (List.mem_of_getElem? (i := 25) rfl))) (mvT hZ (hw _ (List.mem_of_getElem? (i := 26) rfl))) (mvT hZ (hw _ (List.mem_of_getElem? (i := 27) rfl))) (mvT hZ (hw _ (List.mem_of_getElem? (i := 28) rfl))) (by decide) (backOf (W := 0) (rm6 l Z a0 hw [] q0 r3 T22.heap n0 Z_25 ) hZ (hw _ (List.mem_of_getElem? (i := 28) rfl)) (hw _ (List.mem_of_getElem? (i := 27) rfl)) (by decide) (by decide)) (g := (mkF m 52 #[.val (.long q0), .second, .val (.int p1), .val (.long q2), .second, .val (.int p3), .val (.int p4), .val (.long r3), .second, .val (.int r7), .val (.ref b10), .val (.ref b17), .unset, .unset, .unset, .unset, .unset, .unset] [(.long r3), (.long q0)])) rfl (by rw [hml]; rfl) (argsL := [(.long q0), (.long r3)]) (rest := []) (lenOf pd_4 rfl) rfl (by show 2 * 0 + _ ≤ _; exact Nat.le_of_eq rfl) (hb hby at_52) (fun _ _ => ⟨rfl, rfl, (by decide : 2 + 0 ≤ _), (by decide : 4 + 0 ≤ _)⟩)
  dsimp only [Pt.U, Pt.locs, Pt.cells, Pt.slots] at X26 l26 y26 z26 st26 hQ26
  subst l26 y26 z26
  obtain ⟨rfl, N26, eh26⟩ := hQ26
  have N26' := Fr.app N22' N26
  have K28 : Steps p.tables e below _ (T26.setTop (mkF m 55 #[.val (.long q0), .second, .val (.int p1), .val (.long q2), .second, .val (.int p3), .val (.int p4), .val (.long r3), .second, .val (.int r7), .val (.ref b10), .val (.ref b17), .unset, .unset, .unset, .unset, .unset, .unset] [(.long (if q0 < r3 then r3 else q0))])) := K24.trans (st26 _ (Steps.refl _))
  obtain ⟨r27, hr27⟩ : ∃ z : Int64, (if q0 < r3 then r3 else q0) = z := ⟨_, rfl⟩
  rw [hr27] at K28
  have K29 : Steps p.tables e below _ (T26.setTop (mkF m 57 #[.val (.long q0), .second, .val (.int p1), .val (.long q2), .second, .val (.int p3), .val (.int p4), .val (.long r3), .second, .val (.int r7), .val (.ref b10), .val (.ref b17), .unset, .unset, .unset, .unset, .unset, .unset] [(.int (lcmpW r27 q0))])) := K28.trans (by
    show Steps p.tables e below (T26.setTop (mkF m 55 #[.val (.long q0), .second, .val (.int p1), .val (.long q2), .second, .val (.int p3), .val (.int p4), .val (.long r3), .second, .val (.int r7), .val (.ref b10), .val (.ref b17), .unset, .unset, .unset, .unset, .unset, .unset] [(.long r27)])) _
    refine XS.lloadN X26.here hx rfl (hb hby at_55) rfl ?_
    show Steps p.tables e below (T26.setTop (mkF m 56 #[.val (.long q0), .second, .val (.int p1), .val (.long q2), .second, .val (.int p3), .val (.int p4), .val (.long r3), .second, .val (.int r7), .val (.ref b10), .val (.ref b17), .unset, .unset, .unset, .unset, .unset, .unset] [(.long q0), (.long r27)])) _
    refine XS.lcmp X26.here hx rfl (hb hby at_56) rfl ?_
    show Steps p.tables e below (T26.setTop (mkF m 57 #[.val (.long q0), .second, .val (.int p1), .val (.long q2), .second, .val (.int p3), .val (.int p4), .val (.long r3), .second, .val (.int r7), .val (.ref b10), .val (.ref b17), .unset, .unset, .unset, .unset, .unset, .unset] [(.int (lcmpW r27 q0))])) _
    exact Steps.refl _)
  obtain ⟨v30_0, hv30_0, S30⟩ : ∃ (v30_0 : Int32), (if r27 = q0 then (if q0 = r3 then (0 : Int32) else (1 : Int32)) else (0 : Int32)) = v30_0 ∧ Steps p.tables e below (T26.setTop (mkF m 57 #[.val (.long q0), .second, .val (.int p1), .val (.long q2), .second, .val (.int p3), .val (.int p4), .val (.long r3), .second, .val (.int r7), .val (.ref b10), .val (.ref b17), .unset, .unset, .unset, .unset, .unset, .unset] [(.int (lcmpW r27 q0))])) (T26.setTop (mkF m 72 #[.val (.long q0), .second, .val (.int p1), .val (.long q2), .second, .val (.int p3), .val (.int p4), .val (.long r3), .second, .val (.int r7), .val (.ref b10), .val (.ref b17), .unset, .unset, .unset, .unset, .unset, .unset] [(.int v30_0)])) := by
    have R30 : Steps p.tables e below (T26.setTop (mkF m 57 #[.val (.long q0), .second, .val (.int p1), .val (.long q2), .second, .val (.int p3), .val (.int p4), .val (.long r3), .second, .val (.int r7), .val (.ref b10), .val (.ref b17), .unset, .unset, .unset, .unset, .unset, .unset] [(.int (lcmpW r27 q0))])) (T26.setTop (mkF m 57 #[.val (.long q0), .second, .val (.int p1), .val (.long q2), .second, .val (.int p3), .val (.int p4), .val (.long r3), .second, .val (.int r7), .val (.ref b10), .val (.ref b17), .unset, .unset, .unset, .unset, .unset, .unset] [(.int (lcmpW r27 q0))])) := Steps.refl _
    by_cases hc57 : r27 = q0
    · have K31 : Steps p.tables e below _ (T26.setTop (mkF m 64 #[.val (.long q0), .second, .val (.int p1), .val (.long q2), .second, .val (.int p3), .val (.int p4), .val (.long r3), .second, .val (.int r7), .val (.ref b10), .val (.ref b17), .unset, .unset, .unset, .unset, .unset, .unset] [(.int (lcmpW q0 r3))])) := R30.trans (by
        show Steps p.tables e below (T26.setTop (mkF m 57 #[.val (.long q0), .second, .val (.int p1), .val (.long q2), .second, .val (.int p3), .val (.int p4), .val (.long r3), .second, .val (.int r7), .val (.ref b10), .val (.ref b17), .unset, .unset, .unset, .unset, .unset, .unset] [(.int (lcmpW r27 q0))])) _
        refine XS.ifNo X26.here hx rfl (hb hby at_57) rfl ((if0 _ _).trans (teq ((lw_eq r27 q0).mpr hc57)).2) ?_
        show Steps p.tables e below (T26.setTop (mkF m 60 #[.val (.long q0), .second, .val (.int p1), .val (.long q2), .second, .val (.int p3), .val (.int p4), .val (.long r3), .second, .val (.int r7), .val (.ref b10), .val (.ref b17), .unset, .unset, .unset, .unset, .unset, .unset] [])) _
        refine XS.lloadN X26.here hx rfl (hb hby at_60) rfl ?_
        show Steps p.tables e below (T26.setTop (mkF m 61 #[.val (.long q0), .second, .val (.int p1), .val (.long q2), .second, .val (.int p3), .val (.int p4), .val (.long r3), .second, .val (.int r7), .val (.ref b10), .val (.ref b17), .unset, .unset, .unset, .unset, .unset, .unset] [(.long q0)])) _
        refine XS.lload X26.here hx rfl (hb hby at_61) rfl ?_
        show Steps p.tables e below (T26.setTop (mkF m 63 #[.val (.long q0), .second, .val (.int p1), .val (.long q2), .second, .val (.int p3), .val (.int p4), .val (.long r3), .second, .val (.int r7), .val (.ref b10), .val (.ref b17), .unset, .unset, .unset, .unset, .unset, .unset] [(.long r3), (.long q0)])) _
        refine XS.lcmp X26.here hx rfl (hb hby at_63) rfl ?_
        show Steps p.tables e below (T26.setTop (mkF m 64 #[.val (.long q0), .second, .val (.int p1), .val (.long q2), .second, .val (.int p3), .val (.int p4), .val (.long r3), .second, .val (.int r7), .val (.ref b10), .val (.ref b17), .unset, .unset, .unset, .unset, .unset, .unset] [(.int (lcmpW q0 r3))])) _
        exact Steps.refl _)
      by_cases hc64 : q0 = r3
      · have K32 : Steps p.tables e below _ (T26.setTop (mkF m 72 #[.val (.long q0), .second, .val (.int p1), .val (.long q2), .second, .val (.int p3), .val (.int p4), .val (.long r3), .second, .val (.int r7), .val (.ref b10), .val (.ref b17), .unset, .unset, .unset, .unset, .unset, .unset] [(.int (0 : Int32))])) := K31.trans (by
          show Steps p.tables e below (T26.setTop (mkF m 64 #[.val (.long q0), .second, .val (.int p1), .val (.long q2), .second, .val (.int p3), .val (.int p4), .val (.long r3), .second, .val (.int r7), .val (.ref b10), .val (.ref b17), .unset, .unset, .unset, .unset, .unset, .unset] [(.int (lcmpW q0 r3))])) _
          refine XS.ifYes X26.here hx rfl (pc0 := 64) (pc' := 71) rfl (hb hby at_64) rfl ((if0 _ _).trans (teq ((lw_eq q0 r3).mpr hc64)).1) (by decide) (by decide) ?_
          show Steps p.tables e below (T26.setTop (mkF m 71 #[.val (.long q0), .second, .val (.int p1), .val (.long q2), .second, .val (.int p3), .val (.int p4), .val (.long r3), .second, .val (.int r7), .val (.ref b10), .val (.ref b17), .unset, .unset, .unset, .unset, .unset, .unset] [])) _
          refine XS.iconst X26.here hx rfl (hb hby at_71) ?_
          show Steps p.tables e below (T26.setTop (mkF m 72 #[.val (.long q0), .second, .val (.int p1), .val (.long q2), .second, .val (.int p3), .val (.int p4), .val (.long r3), .second, .val (.int r7), .val (.ref b10), .val (.ref b17), .unset, .unset, .unset, .unset, .unset, .unset] [(.int (0 : Int32))])) _
          exact Steps.refl _)
        exact ⟨(0 : Int32), (by rw [if_pos hc57, if_pos hc64]), K32⟩
      · have K33 : Steps p.tables e below _ (T26.setTop (mkF m 72 #[.val (.long q0), .second, .val (.int p1), .val (.long q2), .second, .val (.int p3), .val (.int p4), .val (.long r3), .second, .val (.int r7), .val (.ref b10), .val (.ref b17), .unset, .unset, .unset, .unset, .unset, .unset] [(.int (1 : Int32))])) := K31.trans (by
          show Steps p.tables e below (T26.setTop (mkF m 64 #[.val (.long q0), .second, .val (.int p1), .val (.long q2), .second, .val (.int p3), .val (.int p4), .val (.long r3), .second, .val (.int r7), .val (.ref b10), .val (.ref b17), .unset, .unset, .unset, .unset, .unset, .unset] [(.int (lcmpW q0 r3))])) _
          refine XS.ifNo X26.here hx rfl (hb hby at_64) rfl ((if0 _ _).trans (feq (fun z => hc64 ((lw_eq q0 r3).mp z))).1) ?_
          show Steps p.tables e below (T26.setTop (mkF m 67 #[.val (.long q0), .second, .val (.int p1), .val (.long q2), .second, .val (.int p3), .val (.int p4), .val (.long r3), .second, .val (.int r7), .val (.ref b10), .val (.ref b17), .unset, .unset, .unset, .unset, .unset, .unset] [])) _
          refine XS.iconst X26.here hx rfl (hb hby at_67) ?_
          show Steps p.tables e below (T26.setTop (mkF m 68 #[.val (.long q0), .second, .val (.int p1), .val (.long q2), .second, .val (.int p3), .val (.int p4), .val (.long r3), .second, .val (.int r7), .val (.ref b10), .val (.ref b17), .unset, .unset, .unset, .unset, .unset, .unset] [(.int (1 : Int32))])) _
          refine XS.goto X26.here hx rfl (pc0 := 68) (pc' := 72) rfl (hb hby at_68) (by decide) (by decide) ?_
          show Steps p.tables e below (T26.setTop (mkF m 72 #[.val (.long q0), .second, .val (.int p1), .val (.long q2), .second, .val (.int p3), .val (.int p4), .val (.long r3), .second, .val (.int r7), .val (.ref b10), .val (.ref b17), .unset, .unset, .unset, .unset, .unset, .unset] [(.int (1 : Int32))])) _
          exact Steps.refl _)
        exact ⟨(1 : Int32), (by rw [if_pos hc57, if_neg hc64]), K33⟩
    · have K34 : Steps p.tables e below _ (T26.setTop (mkF m 72 #[.val (.long q0), .second, .val (.int p1), .val (.long q2), .second, .val (.int p3), .val (.int p4), .val (.long r3), .second, .val (.int r7), .val (.ref b10), .val (.ref b17), .unset, .unset, .unset, .unset, .unset, .unset] [(.int (0 : Int32))])) := R30.trans (by
        show Steps p.tables e below (T26.setTop (mkF m 57 #[.val (.long q0), .second, .val (.int p1), .val (.long q2), .second, .val (.int p3), .val (.int p4), .val (.long r3), .second, .val (.int r7), .val (.ref b10), .val (.ref b17), .unset, .unset, .unset, .unset, .unset, .unset] [(.int (lcmpW r27 q0))])) _
        refine XS.ifYes X26.here hx rfl (pc0 := 57) (pc' := 71) rfl (hb hby at_57) rfl ((if0 _ _).trans (feq (fun z => hc57 ((lw_eq r27 q0).mp z))).2) (by decide) (by decide) ?_
        show Steps p.tables e below (T26.setTop (mkF m 71 #[.val (.long q0), .second, .val (.int p1), .val (.long q2), .second, .val (.int p3), .val (.int p4), .val (.long r3), .second, .val (.int r7), .val (.ref b10), .val (.ref b17), .unset, .unset, .unset, .unset, .unset, .unset] [])) _
        refine XS.iconst X26.here hx rfl (hb hby at_71) ?_
        show Steps p.tables e below (T26.setTop (mkF m 72 #[.val (.long q0), .second, .val (.int p1), .val (.long q2), .second, .val (.int p3), .val (.int p4), .val (.long r3), .second, .val (.int r7), .val (.ref b10), .val (.ref b17), .unset, .unset, .unset, .unset, .unset, .unset] [(.int (0 : Int32))])) _
        exact Steps.refl _)
      exact ⟨(0 : Int32), (by rw [if_neg hc57]), K34⟩
  have K35 := K29.trans S30
  have K36 : Steps p.tables e below _ (T26.setTop (mkF m 77 #[.val (.long q0), .second, .val (.int p1), .val (.long q2), .second, .val (.int p3), .val (.int p4), .val (.long r3), .second, .val (.int r7), .val (.ref b10), .val (.ref b17), .val (.int v30_0), .unset, .unset, .unset, .unset, .unset] [(.int r7), (.int p1)])) := K35.trans (by
    show Steps p.tables e below (T26.setTop (mkF m 72 #[.val (.long q0), .second, .val (.int p1), .val (.long q2), .second, .val (.int p3), .val (.int p4), .val (.long r3), .second, .val (.int r7), .val (.ref b10), .val (.ref b17), .unset, .unset, .unset, .unset, .unset, .unset] [(.int v30_0)])) _
    refine XS.istore X26.here hx rfl (hb hby at_72) rfl (l' := #[.val (.long q0), .second, .val (.int p1), .val (.long q2), .second, .val (.int p3), .val (.int p4), .val (.long r3), .second, .val (.int r7), .val (.ref b10), .val (.ref b17), .val (.int v30_0), .unset, .unset, .unset, .unset, .unset]) rfl ?_
    show Steps p.tables e below (T26.setTop (mkF m 74 #[.val (.long q0), .second, .val (.int p1), .val (.long q2), .second, .val (.int p3), .val (.int p4), .val (.long r3), .second, .val (.int r7), .val (.ref b10), .val (.ref b17), .val (.int v30_0), .unset, .unset, .unset, .unset, .unset] [])) _
    refine XS.iloadN X26.here hx rfl (hb hby at_74) rfl ?_
    show Steps p.tables e below (T26.setTop (mkF m 75 #[.val (.long q0), .second, .val (.int p1), .val (.long q2), .second, .val (.int p3), .val (.int p4), .val (.long r3), .second, .val (.int r7), .val (.ref b10), .val (.ref b17), .val (.int v30_0), .unset, .unset, .unset, .unset, .unset] [(.int p1)])) _
    refine XS.iload X26.here hx rfl (hb hby at_75) rfl ?_
    show Steps p.tables e below (T26.setTop (mkF m 77 #[.val (.long q0), .second, .val (.int p1), .val (.long q2), .second, .val (.int p3), .val (.int p4), .val (.long r3), .second, .val (.int r7), .val (.ref b10), .val (.ref b17), .val (.int v30_0), .unset, .unset, .unset, .unset, .unset] [(.int r7), (.int p1)])) _
    exact Steps.refl _)
  obtain ⟨_, _, ⟨T37, L37, k37, n37⟩, -, X37, ⟨Lc37, hQ37, l37, y37, z37⟩, st37⟩ := Jvm.LawKit.callS X26 hx (y := (⟨"java/lang/Math", "max", "(II)I"⟩ : MethodName)) hown (mvT hZ (hw _ (List.mem_of_getElem? (i := 29) rfl))) (mvT hZ (hw _ (List.mem_of_getElem? (i := 30) rfl))) (mvT hZ (hw _ (List.mem_of_getElem? (i := 27) rfl))) (mvT hZ (hw _ (List.mem_of_getElem? (i := 31) rfl))) (by decide) (backOf (W := 0) (rm7 l Z a0 hw [] p1 r7 T22.heap n0 Z_25 ) hZ (hw _ (List.mem_of_getElem? (i := 31) rfl)) (hw _ (List.mem_of_getElem? (i := 27) rfl)) (by decide) (by decide)) (g := (mkF m 77 #[.val (.long q0), .second, .val (.int p1), .val (.long q2), .second, .val (.int p3), .val (.int p4), .val (.long r3), .second, .val (.int r7), .val (.ref b10), .val (.ref b17), .val (.int v30_0), .unset, .unset, .unset, .unset, .unset] [(.int r7), (.int p1)])) rfl (by rw [hml]; rfl) (argsL := [(.int p1), (.int r7)]) (rest := []) (lenOf pd_5 rfl) rfl (by show 2 * 0 + _ ≤ _; exact Nat.le_of_eq rfl) (hb hby at_77) (fun _ _ => ⟨rfl, eh26, (by decide : 2 + 0 ≤ _), (by decide : 4 + 0 ≤ _)⟩)
  dsimp only [Pt.U, Pt.locs, Pt.cells, Pt.slots] at X37 l37 y37 z37 st37 hQ37
  subst l37 y37 z37
  obtain ⟨rfl, N37, eh37⟩ := hQ37
  have N37' := Fr.app N26' N37
  have K39 : Steps p.tables e below _ (T37.setTop (mkF m 80 #[.val (.long q0), .second, .val (.int p1), .val (.long q2), .second, .val (.int p3), .val (.int p4), .val (.long r3), .second, .val (.int r7), .val (.ref b10), .val (.ref b17), .val (.int v30_0), .unset, .unset, .unset, .unset, .unset] [(.int (if p1 < r7 then r7 else p1))])) := K36.trans (st37 _ (Steps.refl _))
  obtain ⟨r38, hr38⟩ : ∃ z : Int32, (if p1 < r7 then r7 else p1) = z := ⟨_, rfl⟩
  rw [hr38] at K39
  have K40 : Steps p.tables e below _ (T37.setTop (mkF m 81 #[.val (.long q0), .second, .val (.int p1), .val (.long q2), .second, .val (.int p3), .val (.int p4), .val (.long r3), .second, .val (.int r7), .val (.ref b10), .val (.ref b17), .val (.int v30_0), .unset, .unset, .unset, .unset, .unset] [(.int p1), (.int r38)])) := K39.trans (by
    show Steps p.tables e below (T37.setTop (mkF m 80 #[.val (.long q0), .second, .val (.int p1), .val (.long q2), .second, .val (.int p3), .val (.int p4), .val (.long r3), .second, .val (.int r7), .val (.ref b10), .val (.ref b17), .val (.int v30_0), .unset, .unset, .unset, .unset, .unset] [(.int r38)])) _
    refine XS.iloadN X37.here hx rfl (hb hby at_80) rfl ?_
    show Steps p.tables e below (T37.setTop (mkF m 81 #[.val (.long q0), .second, .val (.int p1), .val (.long q2), .second, .val (.int p3), .val (.int p4), .val (.long r3), .second, .val (.int r7), .val (.ref b10), .val (.ref b17), .val (.int v30_0), .unset, .unset, .unset, .unset, .unset] [(.int p1), (.int r38)])) _
    exact Steps.refl _)
  obtain ⟨v41_0, hv41_0, S41⟩ : ∃ (v41_0 : Int32), (if r38 = p1 then (if p1 = r7 then (0 : Int32) else (1 : Int32)) else (0 : Int32)) = v41_0 ∧ Steps p.tables e below (T37.setTop (mkF m 81 #[.val (.long q0), .second, .val (.int p1), .val (.long q2), .second, .val (.int p3), .val (.int p4), .val (.long r3), .second, .val (.int r7), .val (.ref b10), .val (.ref b17), .val (.int v30_0), .unset, .unset, .unset, .unset, .unset] [(.int p1), (.int r38)])) (T37.setTop (mkF m 95 #[.val (.long q0), .second, .val (.int p1), .val (.long q2), .second, .val (.int p3), .val (.int p4), .val (.long r3), .second, .val (.int r7), .val (.ref b10), .val (.ref b17), .val (.int v30_0), .unset, .unset, .unset, .unset, .unset] [(.int v41_0)])) := by
    have R41 : Steps p.tables e below (T37.setTop (mkF m 81 #[.val (.long q0), .second, .val (.int p1), .val (.long q2), .second, .val (.int p3), .val (.int p4), .val (.long r3), .second, .val (.int r7), .val (.ref b10), .val (.ref b17), .val (.int v30_0), .unset, .unset, .unset, .unset, .unset] [(.int p1), (.int r38)])) (T37.setTop (mkF m 81 #[.val (.long q0), .second, .val (.int p1), .val (.long q2), .second, .val (.int p3), .val (.int p4), .val (.long r3), .second, .val (.int r7), .val (.ref b10), .val (.ref b17), .val (.int v30_0), .unset, .unset, .unset, .unset, .unset] [(.int p1), (.int r38)])) := Steps.refl _
    by_cases hc81 : r38 = p1
    · have K42 : Steps p.tables e below _ (T37.setTop (mkF m 87 #[.val (.long q0), .second, .val (.int p1), .val (.long q2), .second, .val (.int p3), .val (.int p4), .val (.long r3), .second, .val (.int r7), .val (.ref b10), .val (.ref b17), .val (.int v30_0), .unset, .unset, .unset, .unset, .unset] [(.int r7), (.int p1)])) := R41.trans (by
        show Steps p.tables e below (T37.setTop (mkF m 81 #[.val (.long q0), .second, .val (.int p1), .val (.long q2), .second, .val (.int p3), .val (.int p4), .val (.long r3), .second, .val (.int r7), .val (.ref b10), .val (.ref b17), .val (.int v30_0), .unset, .unset, .unset, .unset, .unset] [(.int p1), (.int r38)])) _
        refine XS.icmpNo X37.here hx rfl (hb hby at_81) rfl (teq hc81).2 ?_
        show Steps p.tables e below (T37.setTop (mkF m 84 #[.val (.long q0), .second, .val (.int p1), .val (.long q2), .second, .val (.int p3), .val (.int p4), .val (.long r3), .second, .val (.int r7), .val (.ref b10), .val (.ref b17), .val (.int v30_0), .unset, .unset, .unset, .unset, .unset] [])) _
        refine XS.iloadN X37.here hx rfl (hb hby at_84) rfl ?_
        show Steps p.tables e below (T37.setTop (mkF m 85 #[.val (.long q0), .second, .val (.int p1), .val (.long q2), .second, .val (.int p3), .val (.int p4), .val (.long r3), .second, .val (.int r7), .val (.ref b10), .val (.ref b17), .val (.int v30_0), .unset, .unset, .unset, .unset, .unset] [(.int p1)])) _
        refine XS.iload X37.here hx rfl (hb hby at_85) rfl ?_
        show Steps p.tables e below (T37.setTop (mkF m 87 #[.val (.long q0), .second, .val (.int p1), .val (.long q2), .second, .val (.int p3), .val (.int p4), .val (.long r3), .second, .val (.int r7), .val (.ref b10), .val (.ref b17), .val (.int v30_0), .unset, .unset, .unset, .unset, .unset] [(.int r7), (.int p1)])) _
        exact Steps.refl _)
      by_cases hc87 : p1 = r7
      · have K43 : Steps p.tables e below _ (T37.setTop (mkF m 95 #[.val (.long q0), .second, .val (.int p1), .val (.long q2), .second, .val (.int p3), .val (.int p4), .val (.long r3), .second, .val (.int r7), .val (.ref b10), .val (.ref b17), .val (.int v30_0), .unset, .unset, .unset, .unset, .unset] [(.int (0 : Int32))])) := K42.trans (by
          show Steps p.tables e below (T37.setTop (mkF m 87 #[.val (.long q0), .second, .val (.int p1), .val (.long q2), .second, .val (.int p3), .val (.int p4), .val (.long r3), .second, .val (.int r7), .val (.ref b10), .val (.ref b17), .val (.int v30_0), .unset, .unset, .unset, .unset, .unset] [(.int r7), (.int p1)])) _
          refine XS.icmpYes X37.here hx rfl (pc0 := 87) (pc' := 94) rfl (hb hby at_87) rfl (teq hc87).1 (by decide) (by decide) ?_
          show Steps p.tables e below (T37.setTop (mkF m 94 #[.val (.long q0), .second, .val (.int p1), .val (.long q2), .second, .val (.int p3), .val (.int p4), .val (.long r3), .second, .val (.int r7), .val (.ref b10), .val (.ref b17), .val (.int v30_0), .unset, .unset, .unset, .unset, .unset] [])) _
          refine XS.iconst X37.here hx rfl (hb hby at_94) ?_
          show Steps p.tables e below (T37.setTop (mkF m 95 #[.val (.long q0), .second, .val (.int p1), .val (.long q2), .second, .val (.int p3), .val (.int p4), .val (.long r3), .second, .val (.int r7), .val (.ref b10), .val (.ref b17), .val (.int v30_0), .unset, .unset, .unset, .unset, .unset] [(.int (0 : Int32))])) _
          exact Steps.refl _)
        exact ⟨(0 : Int32), (by rw [if_pos hc81, if_pos hc87]), K43⟩
      · have K44 : Steps p.tables e below _ (T37.setTop (mkF m 95 #[.val (.long q0), .second, .val (.int p1), .val (.long q2), .second, .val (.int p3), .val (.int p4), .val (.long r3), .second, .val (.int r7), .val (.ref b10), .val (.ref b17), .val (.int v30_0), .unset, .unset, .unset, .unset, .unset] [(.int (1 : Int32))])) := K42.trans (by
          show Steps p.tables e below (T37.setTop (mkF m 87 #[.val (.long q0), .second, .val (.int p1), .val (.long q2), .second, .val (.int p3), .val (.int p4), .val (.long r3), .second, .val (.int r7), .val (.ref b10), .val (.ref b17), .val (.int v30_0), .unset, .unset, .unset, .unset, .unset] [(.int r7), (.int p1)])) _
          refine XS.icmpNo X37.here hx rfl (hb hby at_87) rfl (feq hc87).1 ?_
          show Steps p.tables e below (T37.setTop (mkF m 90 #[.val (.long q0), .second, .val (.int p1), .val (.long q2), .second, .val (.int p3), .val (.int p4), .val (.long r3), .second, .val (.int r7), .val (.ref b10), .val (.ref b17), .val (.int v30_0), .unset, .unset, .unset, .unset, .unset] [])) _
          refine XS.iconst X37.here hx rfl (hb hby at_90) ?_
          show Steps p.tables e below (T37.setTop (mkF m 91 #[.val (.long q0), .second, .val (.int p1), .val (.long q2), .second, .val (.int p3), .val (.int p4), .val (.long r3), .second, .val (.int r7), .val (.ref b10), .val (.ref b17), .val (.int v30_0), .unset, .unset, .unset, .unset, .unset] [(.int (1 : Int32))])) _
          refine XS.goto X37.here hx rfl (pc0 := 91) (pc' := 95) rfl (hb hby at_91) (by decide) (by decide) ?_
          show Steps p.tables e below (T37.setTop (mkF m 95 #[.val (.long q0), .second, .val (.int p1), .val (.long q2), .second, .val (.int p3), .val (.int p4), .val (.long r3), .second, .val (.int r7), .val (.ref b10), .val (.ref b17), .val (.int v30_0), .unset, .unset, .unset, .unset, .unset] [(.int (1 : Int32))])) _
          exact Steps.refl _)
        exact ⟨(1 : Int32), (by rw [if_pos hc81, if_neg hc87]), K44⟩
    · have K45 : Steps p.tables e below _ (T37.setTop (mkF m 95 #[.val (.long q0), .second, .val (.int p1), .val (.long q2), .second, .val (.int p3), .val (.int p4), .val (.long r3), .second, .val (.int r7), .val (.ref b10), .val (.ref b17), .val (.int v30_0), .unset, .unset, .unset, .unset, .unset] [(.int (0 : Int32))])) := R41.trans (by
        show Steps p.tables e below (T37.setTop (mkF m 81 #[.val (.long q0), .second, .val (.int p1), .val (.long q2), .second, .val (.int p3), .val (.int p4), .val (.long r3), .second, .val (.int r7), .val (.ref b10), .val (.ref b17), .val (.int v30_0), .unset, .unset, .unset, .unset, .unset] [(.int p1), (.int r38)])) _
        refine XS.icmpYes X37.here hx rfl (pc0 := 81) (pc' := 94) rfl (hb hby at_81) rfl (feq hc81).2 (by decide) (by decide) ?_
        show Steps p.tables e below (T37.setTop (mkF m 94 #[.val (.long q0), .second, .val (.int p1), .val (.long q2), .second, .val (.int p3), .val (.int p4), .val (.long r3), .second, .val (.int r7), .val (.ref b10), .val (.ref b17), .val (.int v30_0), .unset, .unset, .unset, .unset, .unset] [])) _
        refine XS.iconst X37.here hx rfl (hb hby at_94) ?_
        show Steps p.tables e below (T37.setTop (mkF m 95 #[.val (.long q0), .second, .val (.int p1), .val (.long q2), .second, .val (.int p3), .val (.int p4), .val (.long r3), .second, .val (.int r7), .val (.ref b10), .val (.ref b17), .val (.int v30_0), .unset, .unset, .unset, .unset, .unset] [(.int (0 : Int32))])) _
        exact Steps.refl _)
      exact ⟨(0 : Int32), (by rw [if_neg hc81]), K45⟩
  have K46 := K40.trans S41
  have K47 : Steps p.tables e below _ (T37.setTop (mkF m 99 #[.val (.long q0), .second, .val (.int p1), .val (.long q2), .second, .val (.int p3), .val (.int p4), .val (.long r3), .second, .val (.int r7), .val (.ref b10), .val (.ref b17), .val (.int v30_0), .val (.int v41_0), .unset, .unset, .unset, .unset] [(.int v30_0)])) := K46.trans (by
    show Steps p.tables e below (T37.setTop (mkF m 95 #[.val (.long q0), .second, .val (.int p1), .val (.long q2), .second, .val (.int p3), .val (.int p4), .val (.long r3), .second, .val (.int r7), .val (.ref b10), .val (.ref b17), .val (.int v30_0), .unset, .unset, .unset, .unset, .unset] [(.int v41_0)])) _
    refine XS.istore X37.here hx rfl (hb hby at_95) rfl (l' := #[.val (.long q0), .second, .val (.int p1), .val (.long q2), .second, .val (.int p3), .val (.int p4), .val (.long r3), .second, .val (.int r7), .val (.ref b10), .val (.ref b17), .val (.int v30_0), .val (.int v41_0), .unset, .unset, .unset, .unset]) rfl ?_
    show Steps p.tables e below (T37.setTop (mkF m 97 #[.val (.long q0), .second, .val (.int p1), .val (.long q2), .second, .val (.int p3), .val (.int p4), .val (.long r3), .second, .val (.int r7), .val (.ref b10), .val (.ref b17), .val (.int v30_0), .val (.int v41_0), .unset, .unset, .unset, .unset] [])) _
    refine XS.iload X37.here hx rfl (hb hby at_97) rfl ?_
    show Steps p.tables e below (T37.setTop (mkF m 99 #[.val (.long q0), .second, .val (.int p1), .val (.long q2), .second, .val (.int p3), .val (.int p4), .val (.long r3), .second, .val (.int r7), .val (.ref b10), .val (.ref b17), .val (.int v30_0), .val (.int v41_0), .unset, .unset, .unset, .unset] [(.int v30_0)])) _
    exact Steps.refl _)
  obtain ⟨v48_0, hv48_0, S48⟩ : ∃ (v48_0 : Int32), (if v30_0 = (0 : Int32) then (0 : Int32) else (if v41_0 = (0 : Int32) then (0 : Int32) else (1 : Int32))) = v48_0 ∧ Steps p.tables e below (T37.setTop (mkF m 99 #[.val (.long q0), .second, .val (.int p1), .val (.long q2), .second, .val (.int p3), .val (.int p4), .val (.long r3), .second, .val (.int r7), .val (.ref b10), .val (.ref b17), .val (.int v30_0), .val (.int v41_0), .unset, .unset, .unset, .unset] [(.int v30_0)])) (T37.setTop (mkF m 112 #[.val (.long q0), .second, .val (.int p1), .val (.long q2), .second, .val (.int p3), .val (.int p4), .val (.long r3), .second, .val (.int r7), .val (.ref b10), .val (.ref b17), .val (.int v30_0), .val (.int v41_0), .unset, .unset, .unset, .unset] [(.int v48_0)])) := by
    have R48 : Steps p.tables e below (T37.setTop (mkF m 99 #[.val (.long q0), .second, .val (.int p1), .val (.long q2), .second, .val (.int p3), .val (.int p4), .val (.long r3), .second, .val (.int r7), .val (.ref b10), .val (.ref b17), .val (.int v30_0), .val (.int v41_0), .unset, .unset, .unset, .unset] [(.int v30_0)])) (T37.setTop (mkF m 99 #[.val (.long q0), .second, .val (.int p1), .val (.long q2), .second, .val (.int p3), .val (.int p4), .val (.long r3), .second, .val (.int r7), .val (.ref b10), .val (.ref b17), .val (.int v30_0), .val (.int v41_0), .unset, .unset, .unset, .unset] [(.int v30_0)])) := Steps.refl _
    by_cases hc99 : v30_0 = (0 : Int32)
    · have K49 : Steps p.tables e below _ (T37.setTop (mkF m 112 #[.val (.long q0), .second, .val (.int p1), .val (.long q2), .second, .val (.int p3), .val (.int p4), .val (.long r3), .second, .val (.int r7), .val (.ref b10), .val (.ref b17), .val (.int v30_0), .val (.int v41_0), .unset, .unset, .unset, .unset] [(.int (0 : Int32))])) := R48.trans (by
        show Steps p.tables e below (T37.setTop (mkF m 99 #[.val (.long q0), .second, .val (.int p1), .val (.long q2), .second, .val (.int p3), .val (.int p4), .val (.long r3), .second, .val (.int r7), .val (.ref b10), .val (.ref b17), .val (.int v30_0), .val (.int v41_0), .unset, .unset, .unset, .unset] [(.int v30_0)])) _
        refine XS.ifYes X37.here hx rfl (pc0 := 99) (pc' := 111) rfl (hb hby at_99) rfl ((if0 _ _).trans (teq hc99).1) (by decide) (by decide) ?_
        show Steps p.tables e below (T37.setTop (mkF m 111 #[.val (.long q0), .second, .val (.int p1), .val (.long q2), .second, .val (.int p3), .val (.int p4), .val (.long r3), .second, .val (.int r7), .val (.ref b10), .val (.ref b17), .val (.int v30_0), .val (.int v41_0), .unset, .unset, .unset, .unset] [])) _
        refine XS.iconst X37.here hx rfl (hb hby at_111) ?_
        show Steps p.tables e below (T37.setTop (mkF m 112 #[.val (.long q0), .second, .val (.int p1), .val (.long q2), .second, .val (.int p3), .val (.int p4), .val (.long r3), .second, .val (.int r7), .val (.ref b10), .val (.ref b17), .val (.int v30_0), .val (.int v41_0), .unset, .unset, .unset, .unset] [(.int (0 : Int32))])) _
        exact Steps.refl _)
      exact ⟨(0 : Int32), (by rw [if_pos hc99]), K49⟩
    · have K50 : Steps p.tables e below _ (T37.setTop (mkF m 104 #[.val (.long q0), .second, .val (.int p1), .val (.long q2), .second, .val (.int p3), .val (.int p4), .val (.long r3), .second, .val (.int r7), .val (.ref b10), .val (.ref b17), .val (.int v30_0), .val (.int v41_0), .unset, .unset, .unset, .unset] [(.int v41_0)])) := R48.trans (by
        show Steps p.tables e below (T37.setTop (mkF m 99 #[.val (.long q0), .second, .val (.int p1), .val (.long q2), .second, .val (.int p3), .val (.int p4), .val (.long r3), .second, .val (.int r7), .val (.ref b10), .val (.ref b17), .val (.int v30_0), .val (.int v41_0), .unset, .unset, .unset, .unset] [(.int v30_0)])) _
        refine XS.ifNo X37.here hx rfl (hb hby at_99) rfl ((if0 _ _).trans (feq hc99).1) ?_
        show Steps p.tables e below (T37.setTop (mkF m 102 #[.val (.long q0), .second, .val (.int p1), .val (.long q2), .second, .val (.int p3), .val (.int p4), .val (.long r3), .second, .val (.int r7), .val (.ref b10), .val (.ref b17), .val (.int v30_0), .val (.int v41_0), .unset, .unset, .unset, .unset] [])) _
        refine XS.iload X37.here hx rfl (hb hby at_102) rfl ?_
        show Steps p.tables e below (T37.setTop (mkF m 104 #[.val (.long q0), .second, .val (.int p1), .val (.long q2), .second, .val (.int p3), .val (.int p4), .val (.long r3), .second, .val (.int r7), .val (.ref b10), .val (.ref b17), .val (.int v30_0), .val (.int v41_0), .unset, .unset, .unset, .unset] [(.int v41_0)])) _
        exact Steps.refl _)
      by_cases hc104 : v41_0 = (0 : Int32)
      · have K51 : Steps p.tables e below _ (T37.setTop (mkF m 112 #[.val (.long q0), .second, .val (.int p1), .val (.long q2), .second, .val (.int p3), .val (.int p4), .val (.long r3), .second, .val (.int r7), .val (.ref b10), .val (.ref b17), .val (.int v30_0), .val (.int v41_0), .unset, .unset, .unset, .unset] [(.int (0 : Int32))])) := K50.trans (by
          show Steps p.tables e below (T37.setTop (mkF m 104 #[.val (.long q0), .second, .val (.int p1), .val (.long q2), .second, .val (.int p3), .val (.int p4), .val (.long r3), .second, .val (.int r7), .val (.ref b10), .val (.ref b17), .val (.int v30_0), .val (.int v41_0), .unset, .unset, .unset, .unset] [(.int v41_0)])) _
          refine XS.ifYes X37.here hx rfl (pc0 := 104) (pc' := 111) rfl (hb hby at_104) rfl ((if0 _ _).trans (teq hc104).1) (by decide) (by decide) ?_
          show Steps p.tables e below (T37.setTop (mkF m 111 #[.val (.long q0), .second, .val (.int p1), .val (.long q2), .second, .val (.int p3), .val (.int p4), .val (.long r3), .second, .val (.int r7), .val (.ref b10), .val (.ref b17), .val (.int v30_0), .val (.int v41_0), .unset, .unset, .unset, .unset] [])) _
          refine XS.iconst X37.here hx rfl (hb hby at_111) ?_
          show Steps p.tables e below (T37.setTop (mkF m 112 #[.val (.long q0), .second, .val (.int p1), .val (.long q2), .second, .val (.int p3), .val (.int p4), .val (.long r3), .second, .val (.int r7), .val (.ref b10), .val (.ref b17), .val (.int v30_0), .val (.int v41_0), .unset, .unset, .unset, .unset] [(.int (0 : Int32))])) _
          exact Steps.refl _)
        exact ⟨(0 : Int32), (by rw [if_neg hc99, if_pos hc104]), K51⟩
      · have K52 : Steps p.tables e below _ (T37.setTop (mkF m 112 #[.val (.long q0), .second, .val (.int p1), .val (.long q2), .second, .val (.int p3), .val (.int p4), .val (.long r3), .second, .val (.int r7), .val (.ref b10), .val (.ref b17), .val (.int v30_0), .val (.int v41_0), .unset, .unset, .unset, .unset] [(.int (1 : Int32))])) := K50.trans (by
          show Steps p.tables e below (T37.setTop (mkF m 104 #[.val (.long q0), .second, .val (.int p1), .val (.long q2), .second, .val (.int p3), .val (.int p4), .val (.long r3), .second, .val (.int r7), .val (.ref b10), .val (.ref b17), .val (.int v30_0), .val (.int v41_0), .unset, .unset, .unset, .unset] [(.int v41_0)])) _
          refine XS.ifNo X37.here hx rfl (hb hby at_104) rfl ((if0 _ _).trans (feq hc104).1) ?_
          show Steps p.tables e below (T37.setTop (mkF m 107 #[.val (.long q0), .second, .val (.int p1), .val (.long q2), .second, .val (.int p3), .val (.int p4), .val (.long r3), .second, .val (.int r7), .val (.ref b10), .val (.ref b17), .val (.int v30_0), .val (.int v41_0), .unset, .unset, .unset, .unset] [])) _
          refine XS.iconst X37.here hx rfl (hb hby at_107) ?_
          show Steps p.tables e below (T37.setTop (mkF m 108 #[.val (.long q0), .second, .val (.int p1), .val (.long q2), .second, .val (.int p3), .val (.int p4), .val (.long r3), .second, .val (.int r7), .val (.ref b10), .val (.ref b17), .val (.int v30_0), .val (.int v41_0), .unset, .unset, .unset, .unset] [(.int (1 : Int32))])) _
          refine XS.goto X37.here hx rfl (pc0 := 108) (pc' := 112) rfl (hb hby at_108) (by decide) (by decide) ?_
          show Steps p.tables e below (T37.setTop (mkF m 112 #[.val (.long q0), .second, .val (.int p1), .val (.long q2), .second, .val (.int p3), .val (.int p4), .val (.long r3), .second, .val (.int r7), .val (.ref b10), .val (.ref b17), .val (.int v30_0), .val (.int v41_0), .unset, .unset, .unset, .unset] [(.int (1 : Int32))])) _
          exact Steps.refl _)
        exact ⟨(1 : Int32), (by rw [if_neg hc99, if_neg hc104]), K52⟩
  have K53 := K47.trans S48
  have K54 : Steps p.tables e below _ (T37.setTop (mkF m 118 #[.val (.long q0), .second, .val (.int p1), .val (.long q2), .second, .val (.int p3), .val (.int p4), .val (.long r3), .second, .val (.int r7), .val (.ref b10), .val (.ref b17), .val (.int v30_0), .val (.int v41_0), .val (.int v48_0), .unset, .unset, .unset] [(.ref b17), (.ref b10)])) := K53.trans (by
    show Steps p.tables e below (T37.setTop (mkF m 112 #[.val (.long q0), .second, .val (.int p1), .val (.long q2), .second, .val (.int p3), .val (.int p4), .val (.long r3), .second, .val (.int r7), .val (.ref b10), .val (.ref b17), .val (.int v30_0), .val (.int v41_0), .unset, .unset, .unset, .unset] [(.int v48_0)])) _
    refine XS.istore X37.here hx rfl (hb hby at_112) rfl (l' := #[.val (.long q0), .second, .val (.int p1), .val (.long q2), .second, .val (.int p3), .val (.int p4), .val (.long r3), .second, .val (.int r7), .val (.ref b10), .val (.ref b17), .val (.int v30_0), .val (.int v41_0), .val (.int v48_0), .unset, .unset, .unset]) rfl ?_
    show Steps p.tables e below (T37.setTop (mkF m 114 #[.val (.long q0), .second, .val (.int p1), .val (.long q2), .second, .val (.int p3), .val (.int p4), .val (.long r3), .second, .val (.int r7), .val (.ref b10), .val (.ref b17), .val (.int v30_0), .val (.int v41_0), .val (.int v48_0), .unset, .unset, .unset] [])) _
    refine XS.aload X37.here hx rfl (hb hby at_114) rfl rfl ?_
    show Steps p.tables e below (T37.setTop (mkF m 116 #[.val (.long q0), .second, .val (.int p1), .val (.long q2), .second, .val (.int p3), .val (.int p4), .val (.long r3), .second, .val (.int r7), .val (.ref b10), .val (.ref b17), .val (.int v30_0), .val (.int v41_0), .val (.int v48_0), .unset, .unset, .unset] [(.ref b10)])) _
    refine XS.aload X37.here hx rfl (hb hby at_116) rfl rfl ?_
    show Steps p.tables e below (T37.setTop (mkF m 118 #[.val (.long q0), .second, .val (.int p1), .val (.long q2), .second, .val (.int p3), .val (.int p4), .val (.long r3), .second, .val (.int r7), .val (.ref b10), .val (.ref b17), .val (.int v30_0), .val (.int v41_0), .val (.int v48_0), .unset, .unset, .unset] [(.ref b17), (.ref b10)])) _
    exact Steps.refl _)
  have F_55 : Fld Z T22.heap b10 "com/example/modest_log/modestlog/log/TimeIndexEntry" "timestamp" "J" (.long q0) := ((Q14_1.ext E17).keep Kp22 (ninS ne_b10_b17 nin0))
  have F_56 : Fld Z T22.heap b10 "com/example/modest_log/modestlog/log/TimeIndexEntry" "relativeOffset" "I" (.int p1) := ((Q14_2.ext E17).keep Kp22 (ninS ne_b10_b17 nin0))
  have E_58 : Exa Z T22.heap b10 "com/example/modest_log/modestlog/log/TimeIndexEntry" := ((Q14_0.ext E17).keep Kp22)
  obtain ⟨cq57, kq57, q57a, q57b, q57c⟩ := isOf hZ eh37 E_58
  obtain ⟨_, _, ⟨T57, L57, k57, n57⟩, -, X57, ⟨Lc57, hQ57, l57, y57, z57⟩, st57⟩ := X37.virtualBack hx (y := (⟨"com/example/modest_log/modestlog/log/TimeIndexEntry", "follows", "(Lcom/example/modest_log/modestlog/log/TimeIndexEntry;)Z"⟩ : MethodName)) (z := (⟨"com/example/modest_log/modestlog/log/TimeIndexEntry", "follows", "(Lcom/example/modest_log/modestlog/log/TimeIndexEntry;)Z"⟩ : MethodName)) hown (mvT hZ (hw _ (List.mem_of_getElem? (i := 32) rfl))) (mvT hZ (hw _ (List.mem_of_getElem? (i := 33) rfl))) (notFace_of_selects (args := #[]) (mvT hZ (hw _ (List.mem_of_getElem? (i := 35) rfl)))) (mvT hZ (hw _ (List.mem_of_getElem? (i := 35) rfl))) (mvT hZ (hw _ (List.mem_of_getElem? (i := 34) rfl))) (by decide) (backOf (W := 0) (rm8 l Z a0 hw [] b10 b17 q0 r3 p1 r7 T22.heap n0 Z_25 F_55 Q22_1 F_56 Q22_2) hZ (hw _ (List.mem_of_getElem? (i := 36) rfl)) (hw _ (List.mem_of_getElem? (i := 9) rfl)) (by decide) (by decide)) q57a q57c (g := (mkF m 118 #[.val (.long q0), .second, .val (.int p1), .val (.long q2), .second, .val (.int p3), .val (.int p4), .val (.long r3), .second, .val (.int r7), .val (.ref b10), .val (.ref b17), .val (.int v30_0), .val (.int v41_0), .val (.int v48_0), .unset, .unset, .unset] [(.ref b17), (.ref b10)])) rfl (by rw [hml]; rfl) K54 (argsL := [(.ref b17)]) (rest := []) (lenOf pd_6 rfl) rfl (by show 2 * 0 + _ ≤ _; exact Nat.le_of_eq rfl) (hb hby at_118) (fun _ _ => ⟨rfl, eh37, (by decide : 2 + 0 ≤ _), (by decide : 4 + 0 ≤ _)⟩)
  dsimp only [Pt.U, Pt.locs, Pt.cells, Pt.slots] at X57 l57 y57 z57 st57 hQ57
  subst l57 y57 z57
  obtain ⟨rfl, N57, eh57⟩ := hQ57
  have N57' := Fr.app N37' N57
  have K60 : Steps p.tables e below _ (T57.setTop (mkF m 121 #[.val (.long q0), .second, .val (.int p1), .val (.long q2), .second, .val (.int p3), .val (.int p4), .val (.long r3), .second, .val (.int r7), .val (.ref b10), .val (.ref b17), .val (.int v30_0), .val (.int v41_0), .val (.int v48_0), .unset, .unset, .unset] [(.int ((if r3 < q0 then (if r7 < p1 then (1 : Int32) else (0 : Int32)) else (0 : Int32)) &&& 1))])) := st57
  obtain ⟨r59, hr59⟩ : ∃ z : Int32, ((if r3 < q0 then (if r7 < p1 then (1 : Int32) else (0 : Int32)) else (0 : Int32)) &&& 1) = z := ⟨_, rfl⟩
  rw [hr59] at K60
  have K61 : Steps p.tables e below _ (T57.setTop (mkF m 127 #[.val (.long q0), .second, .val (.int p1), .val (.long q2), .second, .val (.int p3), .val (.int p4), .val (.long r3), .second, .val (.int r7), .val (.ref b10), .val (.ref b17), .val (.int v30_0), .val (.int v41_0), .val (.int v48_0), .val (.int r59), .unset, .unset] [(.ref b10), (.ref b17)])) := K60.trans (by
    show Steps p.tables e below (T57.setTop (mkF m 121 #[.val (.long q0), .second, .val (.int p1), .val (.long q2), .second, .val (.int p3), .val (.int p4), .val (.long r3), .second, .val (.int r7), .val (.ref b10), .val (.ref b17), .val (.int v30_0), .val (.int v41_0), .val (.int v48_0), .unset, .unset, .unset] [(.int r59)])) _
    refine XS.istore X57.here hx rfl (hb hby at_121) rfl (l' := #[.val (.long q0), .second, .val (.int p1), .val (.long q2), .second, .val (.int p3), .val (.int p4), .val (.long r3), .second, .val (.int r7), .val (.ref b10), .val (.ref b17), .val (.int v30_0), .val (.int v41_0), .val (.int v48_0), .val (.int r59), .unset, .unset]) rfl ?_
    show Steps p.tables e below (T57.setTop (mkF m 123 #[.val (.long q0), .second, .val (.int p1), .val (.long q2), .second, .val (.int p3), .val (.int p4), .val (.long r3), .second, .val (.int r7), .val (.ref b10), .val (.ref b17), .val (.int v30_0), .val (.int v41_0), .val (.int v48_0), .val (.int r59), .unset, .unset] [])) _
    refine XS.aload X57.here hx rfl (hb hby at_123) rfl rfl ?_
    show Steps p.tables e below (T57.setTop (mkF m 125 #[.val (.long q0), .second, .val (.int p1), .val (.long q2), .second, .val (.int p3), .val (.int p4), .val (.long r3), .second, .val (.int r7), .val (.ref b10), .val (.ref b17), .val (.int v30_0), .val (.int v41_0), .val (.int v48_0), .val (.int r59), .unset, .unset] [(.ref b17)])) _
    refine XS.aload X57.here hx rfl (hb hby at_125) rfl rfl ?_
    show Steps p.tables e below (T57.setTop (mkF m 127 #[.val (.long q0), .second, .val (.int p1), .val (.long q2), .second, .val (.int p3), .val (.int p4), .val (.long r3), .second, .val (.int r7), .val (.ref b10), .val (.ref b17), .val (.int v30_0), .val (.int v41_0), .val (.int v48_0), .val (.int r59), .unset, .unset] [(.ref b10), (.ref b17)])) _
    exact Steps.refl _)
  obtain ⟨cq62, kq62, q62a, q62b, q62c⟩ := isOf hZ eh57 Q22_0
  obtain ⟨_, _, ⟨T62, L62, k62, n62⟩, -, X62, ⟨Lc62, hQ62, l62, y62, z62⟩, st62⟩ := X57.virtualBack hx (y := (⟨"com/example/modest_log/modestlog/log/TimeIndexEntry", "follows", "(Lcom/example/modest_log/modestlog/log/TimeIndexEntry;)Z"⟩ : MethodName)) (z := (⟨"com/example/modest_log/modestlog/log/TimeIndexEntry", "follows", "(Lcom/example/modest_log/modestlog/log/TimeIndexEntry;)Z"⟩ : MethodName)) hown (mvT hZ (hw _ (List.mem_of_getElem? (i := 32) rfl))) (mvT hZ (hw _ (List.mem_of_getElem? (i := 33) rfl))) (notFace_of_selects (args := #[]) (mvT hZ (hw _ (List.mem_of_getElem? (i := 35) rfl)))) (mvT hZ (hw _ (List.mem_of_getElem? (i := 35) rfl))) (mvT hZ (hw _ (List.mem_of_getElem? (i := 34) rfl))) (by decide) (backOf (W := 0) (rm8 l Z a0 hw [] b17 b10 r3 q0 r7 p1 T22.heap n0 Z_25 Q22_1 F_55 Q22_2 F_56) hZ (hw _ (List.mem_of_getElem? (i := 36) rfl)) (hw _ (List.mem_of_getElem? (i := 9) rfl)) (by decide) (by decide)) q62a q62c (g := (mkF m 127 #[.val (.long q0), .second, .val (.int p1), .val (.long q2), .second, .val (.int p3), .val (.int p4), .val (.long r3), .second, .val (.int r7), .val (.ref b10), .val (.ref b17), .val (.int v30_0), .val (.int v41_0), .val (.int v48_0), .val (.int r59), .unset, .unset] [(.ref b10), (.ref b17)])) rfl (by rw [hml]; rfl) K61 (argsL := [(.ref b10)]) (rest := []) (lenOf pd_6 rfl) rfl (by show 2 * 0 + _ ≤ _; exact Nat.le_of_eq rfl) (hb hby at_127) (fun _ _ => ⟨rfl, eh57, (by decide : 2 + 0 ≤ _), (by decide : 4 + 0 ≤ _)⟩)
  dsimp only [Pt.U, Pt.locs, Pt.cells, Pt.slots] at X62 l62 y62 z62 st62 hQ62
  subst l62 y62 z62
  obtain ⟨rfl, N62, eh62⟩ := hQ62
  have N62' := Fr.app N57' N62
  have K64 : Steps p.tables e below _ (T62.setTop (mkF m 130 #[.val (.long q0), .second, .val (.int p1), .val (.long q2), .second, .val (.int p3), .val (.int p4), .val (.long r3), .second, .val (.int r7), .val (.ref b10), .val (.ref b17), .val (.int v30_0), .val (.int v41_0), .val (.int v48_0), .val (.int r59), .unset, .unset] [(.int ((if q0 < r3 then (if p1 < r7 then (1 : Int32) else (0 : Int32)) else (0 : Int32)) &&& 1))])) := st62
  obtain ⟨r63, hr63⟩ : ∃ z : Int32, ((if q0 < r3 then (if p1 < r7 then (1 : Int32) else (0 : Int32)) else (0 : Int32)) &&& 1) = z := ⟨_, rfl⟩
  rw [hr63] at K64
  have K65 : Steps p.tables e below _ (T62.setTop (mkF m 136 #[.val (.long q0), .second, .val (.int p1), .val (.long q2), .second, .val (.int p3), .val (.int p4), .val (.long r3), .second, .val (.int r7), .val (.ref b10), .val (.ref b17), .val (.int v30_0), .val (.int v41_0), .val (.int v48_0), .val (.int r59), .val (.int r63), .unset] [(.ref b10), (.ref b10)])) := K64.trans (by
    show Steps p.tables e below (T62.setTop (mkF m 130 #[.val (.long q0), .second, .val (.int p1), .val (.long q2), .second, .val (.int p3), .val (.int p4), .val (.long r3), .second, .val (.int r7), .val (.ref b10), .val (.ref b17), .val (.int v30_0), .val (.int v41_0), .val (.int v48_0), .val (.int r59), .unset, .unset] [(.int r63)])) _
    refine XS.istore X62.here hx rfl (hb hby at_130) rfl (l' := #[.val (.long q0), .second, .val (.int p1), .val (.long q2), .second, .val (.int p3), .val (.int p4), .val (.long r3), .second, .val (.int r7), .val (.ref b10), .val (.ref b17), .val (.int v30_0), .val (.int v41_0), .val (.int v48_0), .val (.int r59), .val (.int r63), .unset]) rfl ?_
    show Steps p.tables e below (T62.setTop (mkF m 132 #[.val (.long q0), .second, .val (.int p1), .val (.long q2), .second, .val (.int p3), .val (.int p4), .val (.long r3), .second, .val (.int r7), .val (.ref b10), .val (.ref b17), .val (.int v30_0), .val (.int v41_0), .val (.int v48_0), .val (.int r59), .val (.int r63), .unset] [])) _
    refine XS.aload X62.here hx rfl (hb hby at_132) rfl rfl ?_
    show Steps p.tables e below (T62.setTop (mkF m 134 #[.val (.long q0), .second, .val (.int p1), .val (.long q2), .second, .val (.int p3), .val (.int p4), .val (.long r3), .second, .val (.int r7), .val (.ref b10), .val (.ref b17), .val (.int v30_0), .val (.int v41_0), .val (.int v48_0), .val (.int r59), .val (.int r63), .unset] [(.ref b10)])) _
    refine XS.aload X62.here hx rfl (hb hby at_134) rfl rfl ?_
    show Steps p.tables e below (T62.setTop (mkF m 136 #[.val (.long q0), .second, .val (.int p1), .val (.long q2), .second, .val (.int p3), .val (.int p4), .val (.long r3), .second, .val (.int r7), .val (.ref b10), .val (.ref b17), .val (.int v30_0), .val (.int v41_0), .val (.int v48_0), .val (.int r59), .val (.int r63), .unset] [(.ref b10), (.ref b10)])) _
    exact Steps.refl _)
  obtain ⟨cq66, kq66, q66a, q66b, q66c⟩ := isOf hZ eh62 E_58
  obtain ⟨_, _, ⟨T66, L66, k66, n66⟩, -, X66, ⟨Lc66, hQ66, l66, y66, z66⟩, st66⟩ := X62.virtualBack hx (y := (⟨"com/example/modest_log/modestlog/log/TimeIndexEntry", "follows", "(Lcom/example/modest_log/modestlog/log/TimeIndexEntry;)Z"⟩ : MethodName)) (z := (⟨"com/example/modest_log/modestlog/log/TimeIndexEntry", "follows", "(Lcom/example/modest_log/modestlog/log/TimeIndexEntry;)Z"⟩ : MethodName)) hown (mvT hZ (hw _ (List.mem_of_getElem? (i := 32) rfl))) (mvT hZ (hw _ (List.mem_of_getElem? (i := 33) rfl))) (notFace_of_selects (args := #[]) (mvT hZ (hw _ (List.mem_of_getElem? (i := 35) rfl)))) (mvT hZ (hw _ (List.mem_of_getElem? (i := 35) rfl))) (mvT hZ (hw _ (List.mem_of_getElem? (i := 34) rfl))) (by decide) (backOf (W := 0) (rm8 l Z a0 hw [] b10 b10 q0 q0 p1 p1 T22.heap n0 Z_25 F_55 F_55 F_56 F_56) hZ (hw _ (List.mem_of_getElem? (i := 36) rfl)) (hw _ (List.mem_of_getElem? (i := 9) rfl)) (by decide) (by decide)) q66a q66c (g := (mkF m 136 #[.val (.long q0), .second, .val (.int p1), .val (.long q2), .second, .val (.int p3), .val (.int p4), .val (.long r3), .second, .val (.int r7), .val (.ref b10), .val (.ref b17), .val (.int v30_0), .val (.int v41_0), .val (.int v48_0), .val (.int r59), .val (.int r63), .unset] [(.ref b10), (.ref b10)])) rfl (by rw [hml]; rfl) K65 (argsL := [(.ref b10)]) (rest := []) (lenOf pd_6 rfl) rfl (by show 2 * 0 + _ ≤ _; exact Nat.le_of_eq rfl) (hb hby at_136) (fun _ _ => ⟨rfl, eh62, (by decide : 2 + 0 ≤ _), (by decide : 4 + 0 ≤ _)⟩)
  dsimp only [Pt.U, Pt.locs, Pt.cells, Pt.slots] at X66 l66 y66 z66 st66 hQ66
  subst l66 y66 z66
  obtain ⟨rfl, N66, eh66⟩ := hQ66
  have N66' := Fr.app N62' N66
  have K68 : Steps p.tables e below _ (T66.setTop (mkF m 139 #[.val (.long q0), .second, .val (.int p1), .val (.long q2), .second, .val (.int p3), .val (.int p4), .val (.long r3), .second, .val (.int r7), .val (.ref b10), .val (.ref b17), .val (.int v30_0), .val (.int v41_0), .val (.int v48_0), .val (.int r59), .val (.int r63), .unset] [(.int ((if q0 < q0 then (if p1 < p1 then (1 : Int32) else (0 : Int32)) else (0 : Int32)) &&& 1))])) := st66
  obtain ⟨r67, hr67⟩ : ∃ z : Int32, ((if q0 < q0 then (if p1 < p1 then (1 : Int32) else (0 : Int32)) else (0 : Int32)) &&& 1) = z := ⟨_, rfl⟩
  rw [hr67] at K68
  have K69 : Steps p.tables e below _ (T66.setTop (mkF m 145 #[.val (.long q0), .second, .val (.int p1), .val (.long q2), .second, .val (.int p3), .val (.int p4), .val (.long r3), .second, .val (.int r7), .val (.ref b10), .val (.ref b17), .val (.int v30_0), .val (.int v41_0), .val (.int v48_0), .val (.int r59), .val (.int r63), .val (.int r67)] [(.int v48_0), (.int r59)])) := K68.trans (by
    show Steps p.tables e below (T66.setTop (mkF m 139 #[.val (.long q0), .second, .val (.int p1), .val (.long q2), .second, .val (.int p3), .val (.int p4), .val (.long r3), .second, .val (.int r7), .val (.ref b10), .val (.ref b17), .val (.int v30_0), .val (.int v41_0), .val (.int v48_0), .val (.int r59), .val (.int r63), .unset] [(.int r67)])) _
    refine XS.istore X66.here hx rfl (hb hby at_139) rfl (l' := #[.val (.long q0), .second, .val (.int p1), .val (.long q2), .second, .val (.int p3), .val (.int p4), .val (.long r3), .second, .val (.int r7), .val (.ref b10), .val (.ref b17), .val (.int v30_0), .val (.int v41_0), .val (.int v48_0), .val (.int r59), .val (.int r63), .val (.int r67)]) rfl ?_
    show Steps p.tables e below (T66.setTop (mkF m 141 #[.val (.long q0), .second, .val (.int p1), .val (.long q2), .second, .val (.int p3), .val (.int p4), .val (.long r3), .second, .val (.int r7), .val (.ref b10), .val (.ref b17), .val (.int v30_0), .val (.int v41_0), .val (.int v48_0), .val (.int r59), .val (.int r63), .val (.int r67)] [])) _
    refine XS.iload X66.here hx rfl (hb hby at_141) rfl ?_
    show Steps p.tables e below (T66.setTop (mkF m 143 #[.val (.long q0), .second, .val (.int p1), .val (.long q2), .second, .val (.int p3), .val (.int p4), .val (.long r3), .second, .val (.int r7), .val (.ref b10), .val (.ref b17), .val (.int v30_0), .val (.int v41_0), .val (.int v48_0), .val (.int r59), .val (.int r63), .val (.int r67)] [(.int r59)])) _
    refine XS.iload X66.here hx rfl (hb hby at_143) rfl ?_
    show Steps p.tables e below (T66.setTop (mkF m 145 #[.val (.long q0), .second, .val (.int p1), .val (.long q2), .second, .val (.int p3), .val (.int p4), .val (.long r3), .second, .val (.int r7), .val (.ref b10), .val (.ref b17), .val (.int v30_0), .val (.int v41_0), .val (.int v48_0), .val (.int r59), .val (.int r63), .val (.int r67)] [(.int v48_0), (.int r59)])) _
    exact Steps.refl _)
  obtain ⟨v70_0, hv70_0, S70⟩ : ∃ (v70_0 : Int32), (if r59 = v48_0 then (if r59 = (0 : Int32) then (if r67 = (0 : Int32) then (1 : Int32) else (0 : Int32)) else (if r63 = (0 : Int32) then (if r67 = (0 : Int32) then (1 : Int32) else (0 : Int32)) else (0 : Int32))) else (0 : Int32)) = v70_0 ∧ Steps p.tables e below (T66.setTop (mkF m 145 #[.val (.long q0), .second, .val (.int p1), .val (.long q2), .second, .val (.int p3), .val (.int p4), .val (.long r3), .second, .val (.int r7), .val (.ref b10), .val (.ref b17), .val (.int v30_0), .val (.int v41_0), .val (.int v48_0), .val (.int r59), .val (.int r63), .val (.int r67)] [(.int v48_0), (.int r59)])) (T66.setTop (mkF m 168 #[.val (.long q0), .second, .val (.int p1), .val (.long q2), .second, .val (.int p3), .val (.int p4), .val (.long r3), .second, .val (.int r7), .val (.ref b10), .val (.ref b17), .val (.int v30_0), .val (.int v41_0), .val (.int v48_0), .val (.int r59), .val (.int r63), .val (.int r67)] [(.int v70_0)])) := by
    have R70 : Steps p.tables e below (T66.setTop (mkF m 145 #[.val (.long q0), .second, .val (.int p1), .val (.long q2), .second, .val (.int p3), .val (.int p4), .val (.long r3), .second, .val (.int r7), .val (.ref b10), .val (.ref b17), .val (.int v30_0), .val (.int v41_0), .val (.int v48_0), .val (.int r59), .val (.int r63), .val (.int r67)] [(.int v48_0), (.int r59)])) (T66.setTop (mkF m 145 #[.val (.long q0), .second, .val (.int p1), .val (.long q2), .second, .val (.int p3), .val (.int p4), .val (.long r3), .second, .val (.int r7), .val (.ref b10), .val (.ref b17), .val (.int v30_0), .val (.int v41_0), .val (.int v48_0), .val (.int r59), .val (.int r63), .val (.int r67)] [(.int v48_0), (.int r59)])) := Steps.refl _
    by_cases hc145 : r59 = v48_0
    · have K71 : Steps p.tables e below _ (T66.setTop (mkF m 150 #[.val (.long q0), .second, .val (.int p1), .val (.long q2), .second, .val (.int p3), .val (.int p4), .val (.long r3), .second, .val (.int r7), .val (.ref b10), .val (.ref b17), .val (.int v30_0), .val (.int v41_0), .val (.int v48_0), .val (.int r59), .val (.int r63), .val (.int r67)] [(.int r59)])) := R70.trans (by
        show Steps p.tables e below (T66.setTop (mkF m 145 #[.val (.long q0), .second, .val (.int p1), .val (.long q2), .second, .val (.int p3), .val (.int p4), .val (.long r3), .second, .val (.int r7), .val (.ref b10), .val (.ref b17), .val (.int v30_0), .val (.int v41_0), .val (.int v48_0), .val (.int r59), .val (.int r63), .val (.int r67)] [(.int v48_0), (.int r59)])) _
        refine XS.icmpNo X66.here hx rfl (hb hby at_145) rfl (teq hc145).2 ?_
        show Steps p.tables e below (T66.setTop (mkF m 148 #[.val (.long q0), .second, .val (.int p1), .val (.long q2), .second, .val (.int p3), .val (.int p4), .val (.long r3), .second, .val (.int r7), .val (.ref b10), .val (.ref b17), .val (.int v30_0), .val (.int v41_0), .val (.int v48_0), .val (.int r59), .val (.int r63), .val (.int r67)] [])) _
        refine XS.iload X66.here hx rfl (hb hby at_148) rfl ?_
        show Steps p.tables e below (T66.setTop (mkF m 150 #[.val (.long q0), .second, .val (.int p1), .val (.long q2), .second, .val (.int p3), .val (.int p4), .val (.long r3), .second, .val (.int r7), .val (.ref b10), .val (.ref b17), .val (.int v30_0), .val (.int v41_0), .val (.int v48_0), .val (.int r59), .val (.int r63), .val (.int r67)] [(.int r59)])) _
        exact Steps.refl _)
      by_cases hc150 : r59 = (0 : Int32)
      · have K72 : Steps p.tables e below _ (T66.setTop (mkF m 160 #[.val (.long q0), .second, .val (.int p1), .val (.long q2), .second, .val (.int p3), .val (.int p4), .val (.long r3), .second, .val (.int r7), .val (.ref b10), .val (.ref b17), .val (.int v30_0), .val (.int v41_0), .val (.int v48_0), .val (.int r59), .val (.int r63), .val (.int r67)] [(.int r67)])) := K71.trans (by
          show Steps p.tables e below (T66.setTop (mkF m 150 #[.val (.long q0), .second, .val (.int p1), .val (.long q2), .second, .val (.int p3), .val (.int p4), .val (.long r3), .second, .val (.int r7), .val (.ref b10), .val (.ref b17), .val (.int v30_0), .val (.int v41_0), .val (.int v48_0), .val (.int r59), .val (.int r63), .val (.int r67)] [(.int r59)])) _
          refine XS.ifYes X66.here hx rfl (pc0 := 150) (pc' := 158) rfl (hb hby at_150) rfl ((if0 _ _).trans (teq hc150).1) (by decide) (by decide) ?_
          show Steps p.tables e below (T66.setTop (mkF m 158 #[.val (.long q0), .second, .val (.int p1), .val (.long q2), .second, .val (.int p3), .val (.int p4), .val (.long r3), .second, .val (.int r7), .val (.ref b10), .val (.ref b17), .val (.int v30_0), .val (.int v41_0), .val (.int v48_0), .val (.int r59), .val (.int r63), .val (.int r67)] [])) _
          refine XS.iload X66.here hx rfl (hb hby at_158) rfl ?_
          show Steps p.tables e below (T66.setTop (mkF m 160 #[.val (.long q0), .second, .val (.int p1), .val (.long q2), .second, .val (.int p3), .val (.int p4), .val (.long r3), .second, .val (.int r7), .val (.ref b10), .val (.ref b17), .val (.int v30_0), .val (.int v41_0), .val (.int v48_0), .val (.int r59), .val (.int r63), .val (.int r67)] [(.int r67)])) _
          exact Steps.refl _)
        by_cases hc160 : r67 = (0 : Int32)
        · have K73 : Steps p.tables e below _ (T66.setTop (mkF m 168 #[.val (.long q0), .second, .val (.int p1), .val (.long q2), .second, .val (.int p3), .val (.int p4), .val (.long r3), .second, .val (.int r7), .val (.ref b10), .val (.ref b17), .val (.int v30_0), .val (.int v41_0), .val (.int v48_0), .val (.int r59), .val (.int r63), .val (.int r67)] [(.int (1 : Int32))])) := K72.trans (by
            show Steps p.tables e below (T66.setTop (mkF m 160 #[.val (.long q0), .second, .val (.int p1), .val (.long q2), .second, .val (.int p3), .val (.int p4), .val (.long r3), .second, .val (.int r7), .val (.ref b10), .val (.ref b17), .val (.int v30_0), .val (.int v41_0), .val (.int v48_0), .val (.int r59), .val (.int r63), .val (.int r67)] [(.int r67)])) _
            refine XS.ifNo X66.here hx rfl (hb hby at_160) rfl ((if0 _ _).trans (teq hc160).2) ?_
            show Steps p.tables e below (T66.setTop (mkF m 163 #[.val (.long q0), .second, .val (.int p1), .val (.long q2), .second, .val (.int p3), .val (.int p4), .val (.long r3), .second, .val (.int r7), .val (.ref b10), .val (.ref b17), .val (.int v30_0), .val (.int v41_0), .val (.int v48_0), .val (.int r59), .val (.int r63), .val (.int r67)] [])) _
            refine XS.iconst X66.here hx rfl (hb hby at_163) ?_
            show Steps p.tables e below (T66.setTop (mkF m 164 #[.val (.long q0), .second, .val (.int p1), .val (.long q2), .second, .val (.int p3), .val (.int p4), .val (.long r3), .second, .val (.int r7), .val (.ref b10), .val (.ref b17), .val (.int v30_0), .val (.int v41_0), .val (.int v48_0), .val (.int r59), .val (.int r63), .val (.int r67)] [(.int (1 : Int32))])) _
            refine XS.goto X66.here hx rfl (pc0 := 164) (pc' := 168) rfl (hb hby at_164) (by decide) (by decide) ?_
            show Steps p.tables e below (T66.setTop (mkF m 168 #[.val (.long q0), .second, .val (.int p1), .val (.long q2), .second, .val (.int p3), .val (.int p4), .val (.long r3), .second, .val (.int r7), .val (.ref b10), .val (.ref b17), .val (.int v30_0), .val (.int v41_0), .val (.int v48_0), .val (.int r59), .val (.int r63), .val (.int r67)] [(.int (1 : Int32))])) _
            exact Steps.refl _)
          exact ⟨(1 : Int32), (by rw [if_pos hc145, if_pos hc150, if_pos hc160]), K73⟩
        · have K74 : Steps p.tables e below _ (T66.setTop (mkF m 168 #[.val (.long q0), .second, .val (.int p1), .val (.long q2), .second, .val (.int p3), .val (.int p4), .val (.long r3), .second, .val (.int r7), .val (.ref b10), .val (.ref b17), .val (.int v30_0), .val (.int v41_0), .val (.int v48_0), .val (.int r59), .val (.int r63), .val (.int r67)] [(.int (0 : Int32))])) := K72.trans (by
            show Steps p.tables e below (T66.setTop (mkF m 160 #[.val (.long q0), .second, .val (.int p1), .val (.long q2), .second, .val (.int p3), .val (.int p4), .val (.long r3), .second, .val (.int r7), .val (.ref b10), .val (.ref b17), .val (.int v30_0), .val (.int v41_0), .val (.int v48_0), .val (.int r59), .val (.int r63), .val (.int r67)] [(.int r67)])) _
            refine XS.ifYes X66.here hx rfl (pc0 := 160) (pc' := 167) rfl (hb hby at_160) rfl ((if0 _ _).trans (feq hc160).2) (by decide) (by decide) ?_
            show Steps p.tables e below (T66.setTop (mkF m 167 #[.val (.long q0), .second, .val (.int p1), .val (.long q2), .second, .val (.int p3), .val (.int p4), .val (.long r3), .second, .val (.int r7), .val (.ref b10), .val (.ref b17), .val (.int v30_0), .val (.int v41_0), .val (.int v48_0), .val (.int r59), .val (.int r63), .val (.int r67)] [])) _
            refine XS.iconst X66.here hx rfl (hb hby at_167) ?_
            show Steps p.tables e below (T66.setTop (mkF m 168 #[.val (.long q0), .second, .val (.int p1), .val (.long q2), .second, .val (.int p3), .val (.int p4), .val (.long r3), .second, .val (.int r7), .val (.ref b10), .val (.ref b17), .val (.int v30_0), .val (.int v41_0), .val (.int v48_0), .val (.int r59), .val (.int r63), .val (.int r67)] [(.int (0 : Int32))])) _
            exact Steps.refl _)
          exact ⟨(0 : Int32), (by rw [if_pos hc145, if_pos hc150, if_neg hc160]), K74⟩
      · have K75 : Steps p.tables e below _ (T66.setTop (mkF m 155 #[.val (.long q0), .second, .val (.int p1), .val (.long q2), .second, .val (.int p3), .val (.int p4), .val (.long r3), .second, .val (.int r7), .val (.ref b10), .val (.ref b17), .val (.int v30_0), .val (.int v41_0), .val (.int v48_0), .val (.int r59), .val (.int r63), .val (.int r67)] [(.int r63)])) := K71.trans (by
          show Steps p.tables e below (T66.setTop (mkF m 150 #[.val (.long q0), .second, .val (.int p1), .val (.long q2), .second, .val (.int p3), .val (.int p4), .val (.long r3), .second, .val (.int r7), .val (.ref b10), .val (.ref b17), .val (.int v30_0), .val (.int v41_0), .val (.int v48_0), .val (.int r59), .val (.int r63), .val (.int r67)] [(.int r59)])) _
          refine XS.ifNo X66.here hx rfl (hb hby at_150) rfl ((if0 _ _).trans (feq hc150).1) ?_
          show Steps p.tables e below (T66.setTop (mkF m 153 #[.val (.long q0), .second, .val (.int p1), .val (.long q2), .second, .val (.int p3), .val (.int p4), .val (.long r3), .second, .val (.int r7), .val (.ref b10), .val (.ref b17), .val (.int v30_0), .val (.int v41_0), .val (.int v48_0), .val (.int r59), .val (.int r63), .val (.int r67)] [])) _
          refine XS.iload X66.here hx rfl (hb hby at_153) rfl ?_
          show Steps p.tables e below (T66.setTop (mkF m 155 #[.val (.long q0), .second, .val (.int p1), .val (.long q2), .second, .val (.int p3), .val (.int p4), .val (.long r3), .second, .val (.int r7), .val (.ref b10), .val (.ref b17), .val (.int v30_0), .val (.int v41_0), .val (.int v48_0), .val (.int r59), .val (.int r63), .val (.int r67)] [(.int r63)])) _
          exact Steps.refl _)
        by_cases hc155 : r63 = (0 : Int32)
        · have K76 : Steps p.tables e below _ (T66.setTop (mkF m 160 #[.val (.long q0), .second, .val (.int p1), .val (.long q2), .second, .val (.int p3), .val (.int p4), .val (.long r3), .second, .val (.int r7), .val (.ref b10), .val (.ref b17), .val (.int v30_0), .val (.int v41_0), .val (.int v48_0), .val (.int r59), .val (.int r63), .val (.int r67)] [(.int r67)])) := K75.trans (by
            show Steps p.tables e below (T66.setTop (mkF m 155 #[.val (.long q0), .second, .val (.int p1), .val (.long q2), .second, .val (.int p3), .val (.int p4), .val (.long r3), .second, .val (.int r7), .val (.ref b10), .val (.ref b17), .val (.int v30_0), .val (.int v41_0), .val (.int v48_0), .val (.int r59), .val (.int r63), .val (.int r67)] [(.int r63)])) _
            refine XS.ifNo X66.here hx rfl (hb hby at_155) rfl ((if0 _ _).trans (teq hc155).2) ?_
            show Steps p.tables e below (T66.setTop (mkF m 158 #[.val (.long q0), .second, .val (.int p1), .val (.long q2), .second, .val (.int p3), .val (.int p4), .val (.long r3), .second, .val (.int r7), .val (.ref b10), .val (.ref b17), .val (.int v30_0), .val (.int v41_0), .val (.int v48_0), .val (.int r59), .val (.int r63), .val (.int r67)] [])) _
            refine XS.iload X66.here hx rfl (hb hby at_158) rfl ?_
            show Steps p.tables e below (T66.setTop (mkF m 160 #[.val (.long q0), .second, .val (.int p1), .val (.long q2), .second, .val (.int p3), .val (.int p4), .val (.long r3), .second, .val (.int r7), .val (.ref b10), .val (.ref b17), .val (.int v30_0), .val (.int v41_0), .val (.int v48_0), .val (.int r59), .val (.int r63), .val (.int r67)] [(.int r67)])) _
            exact Steps.refl _)
          by_cases hc160 : r67 = (0 : Int32)
          · have K77 : Steps p.tables e below _ (T66.setTop (mkF m 168 #[.val (.long q0), .second, .val (.int p1), .val (.long q2), .second, .val (.int p3), .val (.int p4), .val (.long r3), .second, .val (.int r7), .val (.ref b10), .val (.ref b17), .val (.int v30_0), .val (.int v41_0), .val (.int v48_0), .val (.int r59), .val (.int r63), .val (.int r67)] [(.int (1 : Int32))])) := K76.trans (by
              show Steps p.tables e below (T66.setTop (mkF m 160 #[.val (.long q0), .second, .val (.int p1), .val (.long q2), .second, .val (.int p3), .val (.int p4), .val (.long r3), .second, .val (.int r7), .val (.ref b10), .val (.ref b17), .val (.int v30_0), .val (.int v41_0), .val (.int v48_0), .val (.int r59), .val (.int r63), .val (.int r67)] [(.int r67)])) _
              refine XS.ifNo X66.here hx rfl (hb hby at_160) rfl ((if0 _ _).trans (teq hc160).2) ?_
              show Steps p.tables e below (T66.setTop (mkF m 163 #[.val (.long q0), .second, .val (.int p1), .val (.long q2), .second, .val (.int p3), .val (.int p4), .val (.long r3), .second, .val (.int r7), .val (.ref b10), .val (.ref b17), .val (.int v30_0), .val (.int v41_0), .val (.int v48_0), .val (.int r59), .val (.int r63), .val (.int r67)] [])) _
              refine XS.iconst X66.here hx rfl (hb hby at_163) ?_
              show Steps p.tables e below (T66.setTop (mkF m 164 #[.val (.long q0), .second, .val (.int p1), .val (.long q2), .second, .val (.int p3), .val (.int p4), .val (.long r3), .second, .val (.int r7), .val (.ref b10), .val (.ref b17), .val (.int v30_0), .val (.int v41_0), .val (.int v48_0), .val (.int r59), .val (.int r63), .val (.int r67)] [(.int (1 : Int32))])) _
              refine XS.goto X66.here hx rfl (pc0 := 164) (pc' := 168) rfl (hb hby at_164) (by decide) (by decide) ?_
              show Steps p.tables e below (T66.setTop (mkF m 168 #[.val (.long q0), .second, .val (.int p1), .val (.long q2), .second, .val (.int p3), .val (.int p4), .val (.long r3), .second, .val (.int r7), .val (.ref b10), .val (.ref b17), .val (.int v30_0), .val (.int v41_0), .val (.int v48_0), .val (.int r59), .val (.int r63), .val (.int r67)] [(.int (1 : Int32))])) _
              exact Steps.refl _)
            exact ⟨(1 : Int32), (by rw [if_pos hc145, if_neg hc150, if_pos hc155, if_pos hc160]), K77⟩
          · have K78 : Steps p.tables e below _ (T66.setTop (mkF m 168 #[.val (.long q0), .second, .val (.int p1), .val (.long q2), .second, .val (.int p3), .val (.int p4), .val (.long r3), .second, .val (.int r7), .val (.ref b10), .val (.ref b17), .val (.int v30_0), .val (.int v41_0), .val (.int v48_0), .val (.int r59), .val (.int r63), .val (.int r67)] [(.int (0 : Int32))])) := K76.trans (by
              show Steps p.tables e below (T66.setTop (mkF m 160 #[.val (.long q0), .second, .val (.int p1), .val (.long q2), .second, .val (.int p3), .val (.int p4), .val (.long r3), .second, .val (.int r7), .val (.ref b10), .val (.ref b17), .val (.int v30_0), .val (.int v41_0), .val (.int v48_0), .val (.int r59), .val (.int r63), .val (.int r67)] [(.int r67)])) _
              refine XS.ifYes X66.here hx rfl (pc0 := 160) (pc' := 167) rfl (hb hby at_160) rfl ((if0 _ _).trans (feq hc160).2) (by decide) (by decide) ?_
              show Steps p.tables e below (T66.setTop (mkF m 167 #[.val (.long q0), .second, .val (.int p1), .val (.long q2), .second, .val (.int p3), .val (.int p4), .val (.long r3), .second, .val (.int r7), .val (.ref b10), .val (.ref b17), .val (.int v30_0), .val (.int v41_0), .val (.int v48_0), .val (.int r59), .val (.int r63), .val (.int r67)] [])) _
              refine XS.iconst X66.here hx rfl (hb hby at_167) ?_
              show Steps p.tables e below (T66.setTop (mkF m 168 #[.val (.long q0), .second, .val (.int p1), .val (.long q2), .second, .val (.int p3), .val (.int p4), .val (.long r3), .second, .val (.int r7), .val (.ref b10), .val (.ref b17), .val (.int v30_0), .val (.int v41_0), .val (.int v48_0), .val (.int r59), .val (.int r63), .val (.int r67)] [(.int (0 : Int32))])) _
              exact Steps.refl _)
            exact ⟨(0 : Int32), (by rw [if_pos hc145, if_neg hc150, if_pos hc155, if_neg hc160]), K78⟩
        · have K79 : Steps p.tables e below _ (T66.setTop (mkF m 168 #[.val (.long q0), .second, .val (.int p1), .val (.long q2), .second, .val (.int p3), .val (.int p4), .val (.long r3), .second, .val (.int r7), .val (.ref b10), .val (.ref b17), .val (.int v30_0), .val (.int v41_0), .val (.int v48_0), .val (.int r59), .val (.int r63), .val (.int r67)] [(.int (0 : Int32))])) := K75.trans (by
            show Steps p.tables e below (T66.setTop (mkF m 155 #[.val (.long q0), .second, .val (.int p1), .val (.long q2), .second, .val (.int p3), .val (.int p4), .val (.long r3), .second, .val (.int r7), .val (.ref b10), .val (.ref b17), .val (.int v30_0), .val (.int v41_0), .val (.int v48_0), .val (.int r59), .val (.int r63), .val (.int r67)] [(.int r63)])) _
            refine XS.ifYes X66.here hx rfl (pc0 := 155) (pc' := 167) rfl (hb hby at_155) rfl ((if0 _ _).trans (feq hc155).2) (by decide) (by decide) ?_
            show Steps p.tables e below (T66.setTop (mkF m 167 #[.val (.long q0), .second, .val (.int p1), .val (.long q2), .second, .val (.int p3), .val (.int p4), .val (.long r3), .second, .val (.int r7), .val (.ref b10), .val (.ref b17), .val (.int v30_0), .val (.int v41_0), .val (.int v48_0), .val (.int r59), .val (.int r63), .val (.int r67)] [])) _
            refine XS.iconst X66.here hx rfl (hb hby at_167) ?_
            show Steps p.tables e below (T66.setTop (mkF m 168 #[.val (.long q0), .second, .val (.int p1), .val (.long q2), .second, .val (.int p3), .val (.int p4), .val (.long r3), .second, .val (.int r7), .val (.ref b10), .val (.ref b17), .val (.int v30_0), .val (.int v41_0), .val (.int v48_0), .val (.int r59), .val (.int r63), .val (.int r67)] [(.int (0 : Int32))])) _
            exact Steps.refl _)
          exact ⟨(0 : Int32), (by rw [if_pos hc145, if_neg hc150, if_neg hc155]), K79⟩
    · have K80 : Steps p.tables e below _ (T66.setTop (mkF m 168 #[.val (.long q0), .second, .val (.int p1), .val (.long q2), .second, .val (.int p3), .val (.int p4), .val (.long r3), .second, .val (.int r7), .val (.ref b10), .val (.ref b17), .val (.int v30_0), .val (.int v41_0), .val (.int v48_0), .val (.int r59), .val (.int r63), .val (.int r67)] [(.int (0 : Int32))])) := R70.trans (by
        show Steps p.tables e below (T66.setTop (mkF m 145 #[.val (.long q0), .second, .val (.int p1), .val (.long q2), .second, .val (.int p3), .val (.int p4), .val (.long r3), .second, .val (.int r7), .val (.ref b10), .val (.ref b17), .val (.int v30_0), .val (.int v41_0), .val (.int v48_0), .val (.int r59), .val (.int r63), .val (.int r67)] [(.int v48_0), (.int r59)])) _
        refine XS.icmpYes X66.here hx rfl (pc0 := 145) (pc' := 167) rfl (hb hby at_145) rfl (feq hc145).2 (by decide) (by decide) ?_
        show Steps p.tables e below (T66.setTop (mkF m 167 #[.val (.long q0), .second, .val (.int p1), .val (.long q2), .second, .val (.int p3), .val (.int p4), .val (.long r3), .second, .val (.int r7), .val (.ref b10), .val (.ref b17), .val (.int v30_0), .val (.int v41_0), .val (.int v48_0), .val (.int r59), .val (.int r63), .val (.int r67)] [])) _
        refine XS.iconst X66.here hx rfl (hb hby at_167) ?_
        show Steps p.tables e below (T66.setTop (mkF m 168 #[.val (.long q0), .second, .val (.int p1), .val (.long q2), .second, .val (.int p3), .val (.int p4), .val (.long r3), .second, .val (.int r7), .val (.ref b10), .val (.ref b17), .val (.int v30_0), .val (.int v41_0), .val (.int v48_0), .val (.int r59), .val (.int r63), .val (.int r67)] [(.int (0 : Int32))])) _
        exact Steps.refl _)
      exact ⟨(0 : Int32), (by rw [if_neg hc145]), K80⟩
  have K81 := K69.trans S70
  have hone : (v70_0 &&& 1) = (1 : Int32) := own_law_0 q0 p1 q2 p3 p4 r3 r7 r27 v30_0 r38 v41_0 v48_0 r59 r63 r67 v70_0 hr3 hr7 hr27 hv30_0 hr38 hv41_0 hv48_0 hr59 hr63 hr67 hv70_0
  obtain ⟨fs, hr, hrun, hended, hW, hsame⟩ := X66.leave (v := some (.int (v70_0 &&& 1))) (fun h => by rw [Bd.returns] at h; cases h)
  exact ⟨_, _, K81.trans (retN X66 hx (t := .boolean) Bd.returns (by simp) (hb hby at_168) hr), hrun, hended, _, _, rfl, ⟨by rw [hone], N66'⟩, ⟨_, rfl⟩, hW, hsame.mono (by decide) (by decide)⟩
set_option maxRecDepth 65536 in
set_option maxHeartbeats 40000000 in
theorem comes_1 {Post : Tables → Env → Array Value → State → Outcome → State → Prop} (hpost : ∀ tb e args s v u, (limb_1_1.after args s (.returned v) u = true ∧ limb_1_2.after args s (.returned v) u = true ∧ True) → FrameEnd s (.returned v) u (Jvm.fieldLocs frame_1_writes args s ++ Jvm.arrayLocs frame_1_arrays args s ++ Jvm.staticLocs frame_1_statics s) 16 128 → Post tb e args s (.returned v) u) :
    ArmFor flags0 classFile x code maxLocals ret World_1 tables_1 room_1 Calls_1 rest_1 Pre_1 Post := by
  intro l hfl _ _ p e ha hc hk s m args below hf hA hF happ hP
  obtain ⟨hcalls, hrest, hpre⟩ := hP
  obtain ⟨-, -, -, hnamed, -, -, -, hat⟩ := (Spec.applies_iff hf).mp happ
  obtain ⟨hg, hn⟩ := and_e (Cond.before_iff.mp (show (Jvm.Cond.and given_1 narrow_1).before args s = true from hpre))
  obtain ⟨g1, g2⟩ := and_e hg
  obtain ⟨g3, g4⟩ := and_e g2
  obtain ⟨g5, g6⟩ := and_e g4
  obtain ⟨g7, g8⟩ := and_e g6
  obtain ⟨g9, g10⟩ := and_e g8
  obtain ⟨w0, w1, w2, w3, w4, rfl⟩ : ∃ w0 w1 w2 w3 w4 : Value, args = #[w0, w1, w2, w3, w4] := by
    have hs : args.size = 5 := by simpa [Cond.value, given_1] using g1
    obtain ⟨L⟩ := args
    match L, hs with
    | [w0, w1, w2, w3, w4], _ => exact ⟨w0, w1, w2, w3, w4, rfl⟩
  have hw := fun d (hd : d ∈ tables_1) => atoms_spec (ws := Jvm.Cond.code x code maxLocals ret :: tables_1) hat d (List.mem_cons_of_mem _ hd)
  obtain ⟨i0, ei0⟩ := isL_v g3
  obtain rfl : w0 = (.long i0) := Option.some.inj ei0
  obtain ⟨i1, ei1⟩ := is_v g5
  obtain rfl : w1 = (.int i1) := Option.some.inj ei1
  obtain ⟨i2, ei2⟩ := isL_v g7
  obtain rfl : w2 = (.long i2) := Option.some.inj ei2
  obtain ⟨i3, ei3⟩ := is_v g9
  obtain rfl : w3 = (.int i3) := Option.some.inj ei3
  obtain ⟨i4, ei4⟩ := is_v g10
  obtain rfl : w4 = (.int i4) := Option.some.inj ei4
  obtain ⟨n, o, h1, h2, h3, _, L, rfl, ⟨rfl, N⟩, hq⟩ := rm0 l s _ hw tables_1 i0 i1 i2 i3 i4 s.heap s.heap.size (Nat.le_refl _) p e ha hc hk s m _ below hf ((Spec.applies_iff_loose hf).mp happ).1 ⟨rfl, State.Warmed39.refl s, rfl⟩ trivial
  refine ⟨n, _, h1, h2, h3, hpost _ _ _ _ _ _ ⟨Cond.after_iff.mpr rfl, Cond.after_iff.mpr (eq_i res_at (Term.int_eval (1)) rfl), trivial⟩ ⟨hq.1, hq.2.1, (hq.2.2.sift fun y hy => Or.inr (N y hy)).mono (by decide) (by decide)⟩⟩
theorem main_1_1 : Claimed_1_1 := comes_1 fun _ _ _ _ _ _ h hF => ⟨h.1, hF⟩
theorem main_1_2 : Claimed_1_2 := comes_1 fun _ _ _ _ _ _ h hF => ⟨h.2.1, hF⟩
end Jvm.Pilot.@@N@@
namespace Jvm.Pilot.@@N@@
open Jvm Jvm.ClassFile Sem Op Lib Jvm.Free Jvm.Stand Jvm.Pilot.@@N@@.Jvm.D
/-! MADE BY PROGRAM (witnessworld.py) out of the Statement's table words and the real class files: 11 classes; the members and pool entries that the words name. The judged class is class 1, her method 3. -/
namespace start1
open Jvm.ClassFile
def u (s : String) : CpInfo := .utf8 (stringToUtf16 s)
/-- a pool by its gaps: so many unusable entries, then the entry; so many at the end -/
def gap : Nat → List CpInfo → List CpInfo
  | 0, r => r
  | n + 1, r => .unusable :: gap n r
def poolList (es : List (Nat × CpInfo)) (last : Nat) : List CpInfo := es.foldr (fun e r => gap e.1 (e.2 :: r)) (gap last [])
def pool (es : List (Nat × CpInfo)) (last : Nat) : Array CpInfo := ⟨poolList es last⟩
def fileOf (pool : Array CpInfo) (this : Nat) (attrs : Array Attribute := #[]) (ms : Array MethodInfo := #[]) (fl : Nat := 33) (sup : Nat := 0) (ifs : Array Nat := #[]) (fds : Array FieldInfo := #[]) : ClassFile where
  minorVersion := 0
  majorVersion := 65
  constantPool := pool
  accessFlags := fl
  thisClass := this
  superClass := sup
  interfaces := ifs
  fields := fds
  methods := ms
  attributes := attrs
def plain (name : String) (sup : Option ClassId) : Class where
  name := name
  kind := .ordinary
  loader := none
  accessFlags := 33
  super := sup
  interfaces := #[]
  cf := none
  fields := #[]
  methods := #[]
  instanceTypes := #[]
  staticTypes := #[]
  resolved := #[]
  callSites := []
  init := .initialized
  statics := none
  mirror := none

def pool0 : Array CpInfo := pool [(5, u "<init>"), (0, u "()V"), (1, .class_ 10), (1, u "java/lang/Object")] 113

def k0c0 : Code := { maxStack := 0, maxLocals := 1, code := object_method_1_code, exceptionTable := #[], attributes := #[] }
def k0m0 : Method := { name := "<init>", desc := "()V", sig := { parameters := [], returnType := none }, accessFlags := 1, code := some k0c0 }
/-- java/lang/Object -/
def k0 : Class := { plain "java/lang/Object" none with
  accessFlags := 33
  interfaces := #[]
  cf := some (fileOf pool0 8 #[] #[{ accessFlags := 1, nameIndex := 5, descriptorIndex := 6, attributes := #[] }] 33 0 #[] #[])
  fields := #[]
  methods := #[k0m0]
  instanceTypes := #[]
  staticTypes := #[]
  resolved := Array.replicate 124 none
  statics := none }

def pool1 : Array CpInfo := pool [(2, .class_ 4), (1, u "java/lang/Object"), (0, u "<init>"), (0, u "()V"), (0, .methodref 8 9), (0, .class_ 10), (0, .nameAndType 11 12), (0, u "com/example/modest_log/modestlog/log/TimeIndexEntryFollowsPinLaw"), (0, u "pickLong"), (0, u "(IJJ)J"), (0, .methodref 8 14), (0, .nameAndType 15 16), (0, u "pickInt"), (0, u "(III)I"), (0, .class_ 18), (0, u "com/example/modest_log/modestlog/log/TimeIndexEntry"), (0, .methodref 17 20), (0, .nameAndType 5 21), (0, u "(JI)V"), (0, .methodref 23 24), (0, .class_ 25), (0, .nameAndType 26 27), (0, u "java/lang/Math"), (0, u "max"), (0, u "(JJ)J"), (0, .methodref 23 29), (0, .nameAndType 26 30), (0, u "(II)I"), (0, .methodref 17 32), (0, .nameAndType 33 34), (0, u "follows"), (0, u "(Lcom/example/modest_log/modestlog/log/TimeIndexEntry;)Z"), (3, u "law"), (0, u "(JIJII)Z")] 2

def k1m0 : Method := { name := "<init>", desc := "()V", sig := { parameters := [], returnType := none }, accessFlags := 1, code := none }
def k1c1 : Code := { maxStack := 4, maxLocals := 5, code := method_2_code, exceptionTable := #[], attributes := #[] }
def k1m1 : Method := { name := "pickLong", desc := "(IJJ)J", sig := { parameters := [.int, .long, .long], returnType := some .long }, accessFlags := 10, code := some k1c1 }
def k1c2 : Code := { maxStack := 2, maxLocals := 3, code := method_3_code, exceptionTable := #[], attributes := #[] }
def k1m2 : Method := { name := "pickInt", desc := "(III)I", sig := { parameters := [.int, .int, .int], returnType := some .int }, accessFlags := 10, code := some k1c2 }
def k1c3 : Code := { maxStack := 5, maxLocals := 18, code := code, exceptionTable := #[], attributes := #[] }
def k1m3 : Method := { name := "law", desc := "(JIJII)Z", sig := { parameters := [.long, .int, .long, .int, .int], returnType := some .boolean }, accessFlags := 9, code := some k1c3 }
/-- com/example/modest_log/modestlog/log/TimeIndexEntryFollowsPinLaw -/
def k1 : Class := { plain "com/example/modest_log/modestlog/log/TimeIndexEntryFollowsPinLaw" (some 0) with
  accessFlags := 49
  interfaces := #[]
  cf := some (fileOf pool1 8 #[] #[{ accessFlags := 1, nameIndex := 5, descriptorIndex := 6, attributes := #[] }, { accessFlags := 10, nameIndex := 11, descriptorIndex := 12, attributes := #[] }, { accessFlags := 10, nameIndex := 15, descriptorIndex := 16, attributes := #[] }, { accessFlags := 9, nameIndex := 38, descriptorIndex := 39, attributes := #[] }] 49 2 #[] #[])
  fields := #[]
  methods := #[k1m0, k1m1, k1m2, k1m3]
  instanceTypes := #[]
  staticTypes := #[]
  resolved := Array.replicate 42 none
  statics := none }

def pool2 : Array CpInfo := pool [(1, .methodref 2 3), (0, .class_ 4), (0, .nameAndType 5 6), (0, u "java/lang/Object"), (0, u "<init>"), (0, u "()V"), (0, .class_ 8), (0, u "java/lang/Record")] 13

def k2c0 : Code := { maxStack := 1, maxLocals := 1, code := jdk_30_method_1_code, exceptionTable := #[], attributes := #[] }
def k2m0 : Method := { name := "<init>", desc := "()V", sig := { parameters := [], returnType := none }, accessFlags := 4, code := some k2c0 }
/-- java/lang/Record -/
def k2 : Class := { plain "java/lang/Record" (some 0) with
  accessFlags := 1057
  interfaces := #[]
  cf := some (fileOf pool2 7 #[] #[{ accessFlags := 4, nameIndex := 5, descriptorIndex := 6, attributes := #[] }] 1057 2 #[] #[])
  fields := #[]
  methods := #[k2m0]
  instanceTypes := #[]
  staticTypes := #[]
  resolved := Array.replicate 22 none
  statics := none }

def pool3 : Array CpInfo := pool [(1, .methodref 2 3), (0, .class_ 4), (0, .nameAndType 5 6), (0, u "java/lang/Record"), (0, u "<init>"), (0, u "()V"), (0, .fieldref 8 9), (0, .class_ 10), (0, .nameAndType 11 12), (0, u "com/example/modest_log/modestlog/log/TimeIndexEntry"), (0, u "timestamp"), (0, u "J"), (0, .fieldref 8 14), (0, .nameAndType 15 16), (0, u "relativeOffset"), (0, u "I"), (59, u "(JI)V"), (5, u "follows"), (0, u "(Lcom/example/modest_log/modestlog/log/TimeIndexEntry;)Z")] 50

def k3c0 : Code := { maxStack := 3, maxLocals := 4, code := prog_36_method_1_code, exceptionTable := #[], attributes := #[] }
def k3m0 : Method := { name := "<init>", desc := "(JI)V", sig := { parameters := [.long, .int], returnType := none }, accessFlags := 1, code := some k3c0 }
def k3c1 : Code := { maxStack := 4, maxLocals := 2, code := prog_36_method_4_code, exceptionTable := #[], attributes := #[] }
def k3m1 : Method := { name := "follows", desc := "(Lcom/example/modest_log/modestlog/log/TimeIndexEntry;)Z", sig := { parameters := [(.object "com/example/modest_log/modestlog/log/TimeIndexEntry")], returnType := some .boolean }, accessFlags := 1, code := some k3c1 }
/-- com/example/modest_log/modestlog/log/TimeIndexEntry -/
def k3 : Class := { plain "com/example/modest_log/modestlog/log/TimeIndexEntry" (some 2) with
  accessFlags := 49
  interfaces := #[]
  cf := some (fileOf pool3 8 #[] #[{ accessFlags := 1, nameIndex := 5, descriptorIndex := 76, attributes := #[] }, { accessFlags := 1, nameIndex := 82, descriptorIndex := 83, attributes := #[] }] 49 2 #[] #[{ accessFlags := 18, nameIndex := 11, descriptorIndex := 12, attributes := #[] }, { accessFlags := 18, nameIndex := 15, descriptorIndex := 16, attributes := #[] }])
  fields := #[{ name := "timestamp", type := .long, accessFlags := 18, slot := 0, constantValue := 0 }, { name := "relativeOffset", type := .int, accessFlags := 18, slot := 1, constantValue := 0 }]
  methods := #[k3m0, k3m1]
  instanceTypes := #[.long, .int]
  staticTypes := #[]
  resolved := Array.replicate 134 none
  statics := none }

def pool4 : Array CpInfo := pool [(1, .class_ 2), (0, u "java/lang/Math"), (1, .class_ 6), (1, u "java/lang/Object"), (0, u "<init>"), (0, u "()V"), (89, .class_ 100), (1, u "java/lang/Math$RandomNumberGeneratorHolder"), (20, u "(JJ)J"), (50, u "negativeZeroFloatBits"), (0, u "J"), (2, u "negativeZeroDoubleBits"), (21, u "max"), (46, u "$assertionsDisabled"), (0, u "Z"), (88, u "(II)I"), (2, u "twoToTheDoubleScaleDown"), (0, u "D"), (4, u "twoToTheDoubleScaleUp"), (9, u "E"), (3, u "PI"), (2, u "TAU"), (2, u "DEGREES_TO_RADIANS"), (0, u "RADIANS_TO_DEGREES")] 94

def k4m0 : Method := { name := "<init>", desc := "()V", sig := { parameters := [], returnType := none }, accessFlags := 2, code := none }
def k4c1 : Code := { maxStack := 2, maxLocals := 2, code := jdk_29_method_65_code, exceptionTable := #[], attributes := #[] }
def k4m1 : Method := { name := "max", desc := "(II)I", sig := { parameters := [.int, .int], returnType := some .int }, accessFlags := 9, code := some k4c1 }
def k4c2 : Code := { maxStack := 4, maxLocals := 4, code := jdk_29_method_66_code, exceptionTable := #[], attributes := #[] }
def k4m2 : Method := { name := "max", desc := "(JJ)J", sig := { parameters := [.long, .long], returnType := some .long }, accessFlags := 9, code := some k4c2 }
/-- java/lang/Math -/
def k4 : Class := { plain "java/lang/Math" (some 0) with
  accessFlags := 49
  interfaces := #[]
  cf := some (fileOf pool4 1 #[.nestMembers #[98]] #[{ accessFlags := 2, nameIndex := 7, descriptorIndex := 8, attributes := #[] }, { accessFlags := 9, nameIndex := 198, descriptorIndex := 335, attributes := #[] }, { accessFlags := 9, nameIndex := 198, descriptorIndex := 121, attributes := #[] }] 49 4 #[] #[{ accessFlags := 25, nameIndex := 354, descriptorIndex := 339, attributes := #[] }, { accessFlags := 25, nameIndex := 358, descriptorIndex := 339, attributes := #[] }, { accessFlags := 25, nameIndex := 361, descriptorIndex := 339, attributes := #[] }, { accessFlags := 26, nameIndex := 364, descriptorIndex := 339, attributes := #[] }, { accessFlags := 26, nameIndex := 365, descriptorIndex := 339, attributes := #[] }, { accessFlags := 26, nameIndex := 172, descriptorIndex := 173, attributes := #[] }, { accessFlags := 26, nameIndex := 176, descriptorIndex := 173, attributes := #[] }, { accessFlags := 8, nameIndex := 344, descriptorIndex := 339, attributes := #[] }, { accessFlags := 8, nameIndex := 338, descriptorIndex := 339, attributes := #[] }, { accessFlags := 4120, nameIndex := 245, descriptorIndex := 246, attributes := #[] }])
  fields := #[{ name := "E", type := .double, accessFlags := 25, slot := 0, constantValue := 0 }, { name := "PI", type := .double, accessFlags := 25, slot := 1, constantValue := 0 }, { name := "TAU", type := .double, accessFlags := 25, slot := 2, constantValue := 0 }, { name := "DEGREES_TO_RADIANS", type := .double, accessFlags := 26, slot := 3, constantValue := 0 }, { name := "RADIANS_TO_DEGREES", type := .double, accessFlags := 26, slot := 4, constantValue := 0 }, { name := "negativeZeroFloatBits", type := .long, accessFlags := 26, slot := 5, constantValue := 0 }, { name := "negativeZeroDoubleBits", type := .long, accessFlags := 26, slot := 6, constantValue := 0 }, { name := "twoToTheDoubleScaleUp", type := .double, accessFlags := 8, slot := 7, constantValue := 0 }, { name := "twoToTheDoubleScaleDown", type := .double, accessFlags := 8, slot := 8, constantValue := 0 }, { name := "$assertionsDisabled", type := .boolean, accessFlags := 4120, slot := 9, constantValue := 0 }]
  methods := #[k4m0, k4m1, k4m2]
  instanceTypes := #[]
  staticTypes := #[.double, .double, .double, .double, .double, .long, .long, .double, .double, .boolean]
  resolved := Array.replicate 460 none
  statics := none }

def pool5 : Array CpInfo := pool [(1, u "java/lang/Cloneable"), (0, .class_ 1), (0, u "java/lang/Object"), (0, .class_ 3)] 3

/-- java/lang/Cloneable -/
def k5 : Class := { plain "java/lang/Cloneable" (some 0) with
  accessFlags := 1537
  interfaces := #[]
  cf := some (fileOf pool5 2 #[] #[] 1537 4 #[] #[])
  fields := #[]
  methods := #[]
  instanceTypes := #[]
  staticTypes := #[]
  resolved := Array.replicate 8 none
  statics := none }

def pool6 : Array CpInfo := pool [(1, u "java/io/Serializable"), (0, .class_ 1), (0, u "java/lang/Object"), (0, .class_ 3)] 3

/-- java/io/Serializable -/
def k6 : Class := { plain "java/io/Serializable" (some 0) with
  accessFlags := 1537
  interfaces := #[]
  cf := some (fileOf pool6 2 #[] #[] 1537 4 #[] #[])
  fields := #[]
  methods := #[]
  instanceTypes := #[]
  staticTypes := #[]
  resolved := Array.replicate 8 none
  statics := none }

/-- the primitive byte -/
def k7 : Class := { plain "byte" none with kind := .primitive 'B', accessFlags := 0x411 }
/-- [B -/
def k8 : Class := { plain "[B" (some 0) with kind := .array 7 .byte, interfaces := #[5, 6], accessFlags := 1041 }

/-- the primitive int -/
def k9 : Class := { plain "int" none with kind := .primitive 'I', accessFlags := 0x411 }
/-- [I -/
def k10 : Class := { plain "[I" (some 0) with kind := .array 9 .int, interfaces := #[5, 6], accessFlags := 1041 }

def heap : Heap := #[]
def classes : Array Class := #[k0, k1, k2, k3, k4, k5, k6, k7, k8, k9, k10]
def interned : List (Array UInt16 × Addr) := []
def slotsUsed : Nat := 0
def theMethod : MethodId := ⟨1, 3⟩
def args0 : Array Value := #[.long 5, .int 3, .long 7, .int 9, .int 2]
def aboutOver (below : List Frame) : State where
  vm := { classes := classes, interned := interned.toArray }
  heap := heap
  slotsUsed := slotsUsed
  threads := #[{ frames := .invoking theMethod args0 :: below }]
def below0 : List Frame := [.native { method := ⟨0, 0⟩, args := #[] }]
def about1 : State := aboutOver below0
def p0 : Program := .bare "" "" ""
def e0 : Env := launch0.env 0 0 0
theorem w_frames : about1.frames = Frame.invoking theMethod args0 :: below0 := rfl
set_option maxRecDepth 65536 in
theorem w_args : argsFit about1.vm theMethod args0 = true := by decide +kernel
set_option maxRecDepth 65536 in
theorem w_heap : heapFits about1 = true := by decide +kernel
set_option maxRecDepth 65536 in
theorem w_runnable : about1.curStatus? = some .runnable := by decide +kernel
set_option maxRecDepth 65536 in
theorem w_alone : about1.alone = true := by decide +kernel
set_option maxRecDepth 65536 in
theorem w_named : about1.methodNamed? x = some theMethod := by decide +kernel
set_option maxRecDepth 65536 in
theorem w_hears : about1.hears theMethod below0 = true := by decide +kernel
set_option maxRecDepth 65536 in
theorem w_ripe : about1.ripe theMethod args0 below0 = true := by decide +kernel
theorem w_running : about1.status = .running := rfl
set_option maxRecDepth 65536 in
theorem w_room : about1.hasRoom e0.platform room_1 = true :=
  launch0.hasRoom_least _ room_1 (by decide +kernel) (by decide +kernel) (by decide +kernel) (by decide +kernel) (by decide +kernel) (by decide +kernel)
theorem allAtoms_all (ts : List Jvm.Cond) (a : Array Jvm.Value) (st : Jvm.State) : (allAtoms ts).before a st = ts.all (fun c => c.before a st) := by
  induction ts with
  | nil => rfl
  | cons c t ih =>
    show (Jvm.Cond.and c (allAtoms t)).before a st = _
    rw [Jvm.Cond.before_and, ih, List.all_cons]
def words1 : List Jvm.Cond := Jvm.Cond.code x code maxLocals ret :: tables_1
/-- a 'code' word, met by the world's own term for the bytes: nothing is compared byte by byte -/
theorem code_word {y : MethodName} {bytes : ByteArray} {mx : Nat} {rt : Option FieldType} {a : Array Value} {s : State} {m : MethodId} {meth : Method} {c : Code} (h1 : s.methodNamed? y = some m) (h2 : s.vm.method? m = some meth) (h3 : meth.code = some c) (h4 : c.code = bytes)
    (h5 : (c.maxLocals == mx && c.exceptionTable.isEmpty && decide (c.maxStack ≤ mostOperands) && decide (meth.sig.returnType = rt) && !meth.locks && decide (parseMethodDescriptor y.desc = some meth.sig)) = true) : (Jvm.Cond.code y bytes mx rt).before a s = true := by
  simp only [Bool.and_eq_true, beq_iff_eq, Bool.not_eq_true', decide_eq_true_eq] at h5
  obtain ⟨⟨⟨⟨⟨g1, g2⟩, g3⟩, g4⟩, g5⟩, g6⟩ := h5
  simp [Cond.before, Cond.holds, Cond.value, h1, h2, h3, h4, g1, g2, g3, g4, g5, g6]
def isCode : Jvm.Cond → Bool
  | .code _ _ _ _ => true
  | _ => false
theorem all_split {L : List Jvm.Cond} {P : Jvm.Cond → Bool} (h1 : L.all (fun c => isCode c || P c) = true) (h2 : ∀ c ∈ L.filter isCode, P c = true) : L.all P = true := by
  refine List.all_eq_true.mpr fun c hc => ?_
  have h := List.all_eq_true.mp h1 c hc
  rcases Bool.eq_false_or_eq_true (isCode c) with hi | hi
  · exact h2 c (List.mem_filter.mpr ⟨hc, hi⟩)
  · simpa [hi] using h
set_option maxRecDepth 65536 in
theorem w_c0 : (Jvm.Cond.code x code maxLocals ret).before args0 about1 = true := code_word (m := ⟨1, 3⟩) (meth := k1m3) (c := k1c3) (by decide +kernel) rfl rfl rfl (by decide +kernel)
set_option maxRecDepth 65536 in
theorem w_c1 : (Jvm.Cond.code ({ cls := "com/example/modest_log/modestlog/log/TimeIndexEntryFollowsPinLaw", name := "pickLong", desc := "(IJJ)J" } : Jvm.MethodName) method_2_code (5 : Nat) (Option.some Jvm.ClassFile.FieldType.long)).before args0 about1 = true := code_word (m := ⟨1, 1⟩) (meth := k1m1) (c := k1c1) (by decide +kernel) rfl rfl rfl (by decide +kernel)
set_option maxRecDepth 65536 in
theorem w_c2 : (Jvm.Cond.code ({ cls := "com/example/modest_log/modestlog/log/TimeIndexEntryFollowsPinLaw", name := "pickInt", desc := "(III)I" } : Jvm.MethodName) method_3_code (3 : Nat) (Option.some Jvm.ClassFile.FieldType.int)).before args0 about1 = true := code_word (m := ⟨1, 2⟩) (meth := k1m2) (c := k1c2) (by decide +kernel) rfl rfl rfl (by decide +kernel)
set_option maxRecDepth 65536 in
theorem w_c3 : (Jvm.Cond.code ({ cls := "com/example/modest_log/modestlog/log/TimeIndexEntry", name := "<init>", desc := "(JI)V" } : Jvm.MethodName) prog_36_method_1_code (4 : Nat) (Option.none : Option Jvm.ClassFile.FieldType)).before args0 about1 = true := code_word (m := ⟨3, 0⟩) (meth := k3m0) (c := k3c0) (by decide +kernel) rfl rfl rfl (by decide +kernel)
set_option maxRecDepth 65536 in
theorem w_c4 : (Jvm.Cond.code ({ cls := "java/lang/Record", name := "<init>", desc := "()V" } : Jvm.MethodName) jdk_30_method_1_code (1 : Nat) (Option.none : Option Jvm.ClassFile.FieldType)).before args0 about1 = true := code_word (m := ⟨2, 0⟩) (meth := k2m0) (c := k2c0) (by decide +kernel) rfl rfl rfl (by decide +kernel)
set_option maxRecDepth 65536 in
theorem w_c5 : (Jvm.Cond.code ({ cls := "java/lang/Object", name := "<init>", desc := "()V" } : Jvm.MethodName) object_method_1_code (1 : Nat) (Option.none : Option Jvm.ClassFile.FieldType)).before args0 about1 = true := code_word (m := ⟨0, 0⟩) (meth := k0m0) (c := k0c0) (by decide +kernel) rfl rfl rfl (by decide +kernel)
set_option maxRecDepth 65536 in
theorem w_c6 : (Jvm.Cond.code ({ cls := "java/lang/Math", name := "max", desc := "(JJ)J" } : Jvm.MethodName) jdk_29_method_66_code (4 : Nat) (Option.some Jvm.ClassFile.FieldType.long)).before args0 about1 = true := code_word (m := ⟨4, 2⟩) (meth := k4m2) (c := k4c2) (by decide +kernel) rfl rfl rfl (by decide +kernel)
set_option maxRecDepth 65536 in
theorem w_c7 : (Jvm.Cond.code ({ cls := "java/lang/Math", name := "max", desc := "(II)I" } : Jvm.MethodName) jdk_29_method_65_code (2 : Nat) (Option.some Jvm.ClassFile.FieldType.int)).before args0 about1 = true := code_word (m := ⟨4, 1⟩) (meth := k4m1) (c := k4c1) (by decide +kernel) rfl rfl rfl (by decide +kernel)
set_option maxRecDepth 65536 in
theorem w_c8 : (Jvm.Cond.code ({ cls := "com/example/modest_log/modestlog/log/TimeIndexEntry", name := "follows", desc := "(Lcom/example/modest_log/modestlog/log/TimeIndexEntry;)Z" } : Jvm.MethodName) prog_36_method_4_code (2 : Nat) (Option.some Jvm.ClassFile.FieldType.boolean)).before args0 about1 = true := code_word (m := ⟨3, 1⟩) (meth := k3m1) (c := k3c1) (by decide +kernel) rfl rfl rfl (by decide +kernel)
def codes1 : List Jvm.Cond := [Jvm.Cond.code x code maxLocals ret, Jvm.Cond.code ({ cls := "com/example/modest_log/modestlog/log/TimeIndexEntryFollowsPinLaw", name := "pickLong", desc := "(IJJ)J" } : Jvm.MethodName) method_2_code (5 : Nat) (Option.some Jvm.ClassFile.FieldType.long), Jvm.Cond.code ({ cls := "com/example/modest_log/modestlog/log/TimeIndexEntryFollowsPinLaw", name := "pickInt", desc := "(III)I" } : Jvm.MethodName) method_3_code (3 : Nat) (Option.some Jvm.ClassFile.FieldType.int), Jvm.Cond.code ({ cls := "com/example/modest_log/modestlog/log/TimeIndexEntry", name := "<init>", desc := "(JI)V" } : Jvm.MethodName) prog_36_method_1_code (4 : Nat) (Option.none : Option Jvm.ClassFile.FieldType), Jvm.Cond.code ({ cls := "java/lang/Record", name := "<init>", desc := "()V" } : Jvm.MethodName) jdk_30_method_1_code (1 : Nat) (Option.none : Option Jvm.ClassFile.FieldType), Jvm.Cond.code ({ cls := "java/lang/Object", name := "<init>", desc := "()V" } : Jvm.MethodName) object_method_1_code (1 : Nat) (Option.none : Option Jvm.ClassFile.FieldType), Jvm.Cond.code ({ cls := "java/lang/Math", name := "max", desc := "(JJ)J" } : Jvm.MethodName) jdk_29_method_66_code (4 : Nat) (Option.some Jvm.ClassFile.FieldType.long), Jvm.Cond.code ({ cls := "java/lang/Math", name := "max", desc := "(II)I" } : Jvm.MethodName) jdk_29_method_65_code (2 : Nat) (Option.some Jvm.ClassFile.FieldType.int), Jvm.Cond.code ({ cls := "com/example/modest_log/modestlog/log/TimeIndexEntry", name := "follows", desc := "(Lcom/example/modest_log/modestlog/log/TimeIndexEntry;)Z" } : Jvm.MethodName) prog_36_method_4_code (2 : Nat) (Option.some Jvm.ClassFile.FieldType.boolean)]
set_option maxRecDepth 65536 in
theorem codes_eq : words1.filter isCode = codes1 := rfl
theorem w_codes : ∀ c ∈ words1.filter isCode, c.before args0 about1 = true := by
  rw [codes_eq]
  intro c hc
  simp only [codes1, List.mem_cons, List.not_mem_nil, or_false] at hc
  rcases hc with rfl | rfl | rfl | rfl | rfl | rfl | rfl | rfl | rfl
  · exact w_c0
  · exact w_c1
  · exact w_c2
  · exact w_c3
  · exact w_c4
  · exact w_c5
  · exact w_c6
  · exact w_c7
  · exact w_c8
set_option maxRecDepth 65536 in
theorem w_t1 : (words1.take 24).all (fun c => isCode c || c.before args0 about1) = true := by decide +kernel
set_option maxRecDepth 65536 in
theorem w_t2 : (words1.drop 24).all (fun c => isCode c || c.before args0 about1) = true := by decide +kernel
theorem w_tables : (allAtoms (Jvm.Cond.code x code maxLocals ret :: tables_1)).before args0 about1 = true := by
  rw [allAtoms_all]
  show words1.all (fun c => c.before args0 about1) = true
  refine all_split ?_ w_codes
  rw [← List.take_append_drop 24 words1, List.all_append, w_t1, w_t2]
  rfl
set_option maxRecDepth 65536 in
theorem w_case : (Jvm.Cond.and given_1 narrow_1).before args0 about1 = true := by decide +kernel
theorem w_applies : (headSpec (Jvm.Cond.code x code maxLocals ret :: tables_1) room_1).applies x e0.platform about1 = true :=
  (Spec.applies_iff w_frames).mpr ⟨w_running, w_runnable, w_alone, w_named, w_hears, w_ripe, w_room, w_tables⟩
theorem atStart : AtStart classFile x code maxLocals ret World_1 tables_1 room_1 Calls_1 rest_1 Pre_1 launch0 p0 e0 about1 theMethod args0 below0 :=
  ⟨lists_1, trivial, launch0.admits_env _ _ _, launch0.least_env, fairChoices_fair.cas, fairChoices_fair.clock, w_frames, w_args, w_heap, w_applies, trivial, trivial, w_case⟩
end start1
theorem witness_1 : WitnessClaimed_1 := ⟨start1.p0, start1.e0, start1.about1, start1.theMethod, start1.args0, start1.below0, start1.atStart⟩
end Jvm.Pilot.@@N@@
