import JvmDerived
import JvmDerived.Pilot.@@N@@Statement
import JvmDerived.Pilot.@@N@@Code
set_option linter.unusedVariables false
set_option linter.unusedSimpArgs false
namespace Jvm.Pilot.@@N@@
open Jvm Jvm.ClassFile Sem Op Lib Jvm.Free Jvm.Stand Jvm.LawKit Jvm.RoadKit Bundle Jvm.Pilot.@@N@@.Jvm.D
theorem d1_2 : decode prog_28_method_4_code 2 = .ok (.lload_n 0, 1) := by decide +kernel
theorem d1_3 : decode prog_28_method_4_code 3 = .ok (.ldc2_w 7, 3) := by decide +kernel
theorem d1_6 : decode prog_28_method_4_code 6 = .ok (.land, 1) := by decide +kernel
theorem d1_7 : decode prog_28_method_4_code 7 = .ok (.lconst 0, 1) := by decide +kernel
theorem d1_8 : decode prog_28_method_4_code 8 = .ok (.lcmp, 1) := by decide +kernel
theorem d1_9 : decode prog_28_method_4_code 9 = .ok (.ifCond .eq 14, 3) := by decide +kernel
theorem d1_12 : decode prog_28_method_4_code 12 = .ok (.lload_n 0, 1) := by decide +kernel
theorem d1_13 : decode prog_28_method_4_code 13 = .ok (.bipush 7, 2) := by decide +kernel
theorem d1_15 : decode prog_28_method_4_code 15 = .ok (.lushr, 1) := by decide +kernel
theorem d1_16 : decode prog_28_method_4_code 16 = .ok (.lstore_n 0, 1) := by decide +kernel
theorem d1_17 : decode prog_28_method_4_code 17 = .ok (.iinc 2 1, 3) := by decide +kernel
theorem d1_20 : decode prog_28_method_4_code 20 = .ok (.goto (-18), 3) := by decide +kernel
set_option maxRecDepth 65536 in
set_option maxHeartbeats 40000000 in
theorem turn {p : Program} {l : Launch} {e : Env} {R : Room} {s : State} {m : MethodId} {args : Array Value} {below : List Frame} {meth : Method} {c : Code} {Z : State} {a0 : Array Value} {n0 : Nat} (hx : p.tables.exec = Jvm.exec) (hZ : Z.Warmed39 s.vm) (hw : ∀ d ∈ tables_1, d.before a0 Z = true) (hby : c.code = prog_28_method_4_code) (hml : c.maxLocals = 3) (hown : s.vm.findClass "com/example/windward/windward/storage/VarInts" = some m.cls) (T0 : State) (locs : List Loc) (cells slots : Nat) (h0 : Heap) (v : Int64) (n : Int32) (X0 : Stand p l e R s m args below meth c T0 locs cells slots) (e0 : T0.heap = h0) (Z0 : n0 ≤ h0.size) :
    (((v &&& (-128 : Int64)) = (0 : Int64)) ∧ Steps p.tables e below (T0.setTop (mkF m 2 #[.val (.long v), .second, .val (.int n)] [])) (T0.setTop (mkF m 23 #[.val (.long v), .second, .val (.int n)] []))) ∨ ((¬ ((v &&& (-128 : Int64)) = (0 : Int64))) ∧ Steps p.tables e below (T0.setTop (mkF m 2 #[.val (.long v), .second, .val (.int n)] [])) (T0.setTop (mkF m 2 #[.val (.long ((v.toUInt64 >>> ((7 : Int32) &&& 0x3f).toInt64.toUInt64).toInt64)), .second, .val (.int (n + (1 : Int32)))] []))) := by
  have K0 : Steps p.tables e below (T0.setTop (mkF m 2 #[.val (.long v), .second, .val (.int n)] [])) (T0.setTop (mkF m 2 #[.val (.long v), .second, .val (.int n)] [])) := Steps.refl _
  have K1 : Steps p.tables e below _ (T0.setTop (mkF m 9 #[.val (.long v), .second, .val (.int n)] [(.int (lcmpW (v &&& (-128 : Int64)) (0 : Int64)))])) := K0.trans (by
    show Steps p.tables e below (T0.setTop (mkF m 2 #[.val (.long v), .second, .val (.int n)] [])) _
    refine XS.lloadN X0.here hx rfl (hb hby d1_2) rfl ?_
    show Steps p.tables e below (T0.setTop (mkF m 3 #[.val (.long v), .second, .val (.int n)] [(.long v)])) _
    refine X0.ldc2Long hx hown (mvT hZ (hw _ (List.mem_of_getElem? (i := 6) rfl))) (g := (mkF m 3 #[.val (.long v), .second, .val (.int n)] [(.long v)])) rfl (hb hby d1_3) _ ?_
    show Steps p.tables e below (T0.setTop (mkF m 6 #[.val (.long v), .second, .val (.int n)] [(.long (-128 : Int64)), (.long v)])) _
    refine XS.land X0.here hx rfl (hb hby d1_6) rfl ?_
    show Steps p.tables e below (T0.setTop (mkF m 7 #[.val (.long v), .second, .val (.int n)] [(.long (v &&& (-128 : Int64)))])) _
    refine XS.lconst X0.here hx rfl (hb hby d1_7) ?_
    show Steps p.tables e below (T0.setTop (mkF m 8 #[.val (.long v), .second, .val (.int n)] [(.long (0 : Int64)), (.long (v &&& (-128 : Int64)))])) _
    refine XS.lcmp X0.here hx rfl (hb hby d1_8) rfl ?_
    show Steps p.tables e below (T0.setTop (mkF m 9 #[.val (.long v), .second, .val (.int n)] [(.int (lcmpW (v &&& (-128 : Int64)) (0 : Int64)))])) _
    exact Steps.refl _)
  by_cases hc9 : (v &&& (-128 : Int64)) = (0 : Int64)
  · have K2 : Steps p.tables e below _ (T0.setTop (mkF m 23 #[.val (.long v), .second, .val (.int n)] [])) := K1.trans (by
      show Steps p.tables e below (T0.setTop (mkF m 9 #[.val (.long v), .second, .val (.int n)] [(.int (lcmpW (v &&& (-128 : Int64)) (0 : Int64)))])) _
      refine XS.ifYes X0.here hx rfl (pc0 := 9) (pc' := 23) rfl (hb hby d1_9) rfl ((if0 _ _).trans (teq ((lw_eq (v &&& (-128 : Int64)) (0 : Int64)).mpr hc9)).1) (by decide) (by decide) ?_
      show Steps p.tables e below (T0.setTop (mkF m 23 #[.val (.long v), .second, .val (.int n)] [])) _
      exact Steps.refl _)
    exact Or.inl ⟨hc9, K2⟩
  · have K3 : Steps p.tables e below _ (T0.setTop (mkF m 2 #[.val (.long ((v.toUInt64 >>> ((7 : Int32) &&& 0x3f).toInt64.toUInt64).toInt64)), .second, .val (.int (n + (1 : Int32)))] [])) := K1.trans (by
      show Steps p.tables e below (T0.setTop (mkF m 9 #[.val (.long v), .second, .val (.int n)] [(.int (lcmpW (v &&& (-128 : Int64)) (0 : Int64)))])) _
      refine XS.ifNo X0.here hx rfl (hb hby d1_9) rfl ((if0 _ _).trans (feq (fun z => hc9 ((lw_eq (v &&& (-128 : Int64)) (0 : Int64)).mp z))).1) ?_
      show Steps p.tables e below (T0.setTop (mkF m 12 #[.val (.long v), .second, .val (.int n)] [])) _
      refine XS.lloadN X0.here hx rfl (hb hby d1_12) rfl ?_
      show Steps p.tables e below (T0.setTop (mkF m 13 #[.val (.long v), .second, .val (.int n)] [(.long v)])) _
      refine XS.bipush X0.here hx rfl (hb hby d1_13) ?_
      show Steps p.tables e below (T0.setTop (mkF m 15 #[.val (.long v), .second, .val (.int n)] [(.int (7 : Int32)), (.long v)])) _
      refine XS.lushr X0.here hx rfl (hb hby d1_15) rfl ?_
      show Steps p.tables e below (T0.setTop (mkF m 16 #[.val (.long v), .second, .val (.int n)] [(.long ((v.toUInt64 >>> ((7 : Int32) &&& 0x3f).toInt64.toUInt64).toInt64))])) _
      refine XS.lstoreN X0.here hx rfl (hb hby d1_16) rfl (l' := #[.val (.long ((v.toUInt64 >>> ((7 : Int32) &&& 0x3f).toInt64.toUInt64).toInt64)), .second, .val (.int n)]) rfl ?_
      show Steps p.tables e below (T0.setTop (mkF m 17 #[.val (.long ((v.toUInt64 >>> ((7 : Int32) &&& 0x3f).toInt64.toUInt64).toInt64)), .second, .val (.int n)] [])) _
      refine XS.iinc X0.here hx rfl (hb hby d1_17) rfl (l' := #[.val (.long ((v.toUInt64 >>> ((7 : Int32) &&& 0x3f).toInt64.toUInt64).toInt64)), .second, .val (.int (n + (1 : Int32)))]) rfl ?_
      show Steps p.tables e below (T0.setTop (mkF m 20 #[.val (.long ((v.toUInt64 >>> ((7 : Int32) &&& 0x3f).toInt64.toUInt64).toInt64)), .second, .val (.int (n + (1 : Int32)))] [])) _
      refine XS.goto X0.here hx rfl (pc0 := 20) (pc' := 2) rfl (hb hby d1_20) (by decide) (by decide) ?_
      show Steps p.tables e below (T0.setTop (mkF m 2 #[.val (.long ((v.toUInt64 >>> ((7 : Int32) &&& 0x3f).toInt64.toUInt64).toInt64)), .second, .val (.int (n + (1 : Int32)))] [])) _
      exact Steps.refl _)
    exact Or.inr ⟨hc9, K3⟩
def vl : Nat → Int64 → Int32 → Int64 × Int32
  | 0, v, n => (v, n)
  | k + 1, v, n => if (v &&& (-128 : Int64)) = (0 : Int64) then (v, n) else vl k ((v.toUInt64 >>> ((7 : Int32) &&& 0x3f).toInt64.toUInt64).toInt64) (n + (1 : Int32))
theorem loop {p : Program} {l : Launch} {e : Env} {R : Room} {s : State} {m : MethodId} {args : Array Value} {below : List Frame} {meth : Method} {c : Code} {Z : State} {a0 : Array Value} {n0 : Nat} (hx : p.tables.exec = Jvm.exec) (hZ : Z.Warmed39 s.vm) (hw : ∀ d ∈ tables_1, d.before a0 Z = true) (hby : c.code = prog_28_method_4_code) (hml : c.maxLocals = 3) (hown : s.vm.findClass "com/example/windward/windward/storage/VarInts" = some m.cls) (T0 : State) (locs : List Loc) (cells slots : Nat) (h0 : Heap) (X0 : Stand p l e R s m args below meth c T0 locs cells slots) (e0 : T0.heap = h0) (Z0 : n0 ≤ h0.size) :
    ∀ (k : Nat) (v : Int64) (n : Int32), ((vl k v n).1 &&& (-128 : Int64)) = (0 : Int64) → Steps p.tables e below (T0.setTop (mkF m 2 #[.val (.long v), .second, .val (.int n)] [])) (T0.setTop (mkF m 23 #[.val (.long (vl k v n).1), .second, .val (.int (vl k v n).2)] [])) := by
  intro k
  induction k with
  | zero =>
    intro v n hv
    rcases turn hx hZ hw hby hml hown T0 locs cells slots h0 v n X0 e0 Z0 with ⟨_, q⟩ | ⟨q, _⟩
    · exact q
    · exact absurd hv q
  | succ k ih =>
    intro v n hv
    rcases turn hx hZ hw hby hml hown T0 locs cells slots h0 v n X0 e0 Z0 with ⟨q, r⟩ | ⟨q, r⟩
    · have z : vl (k + 1) v n = (v, n) := by simp only [vl]; rw [if_pos q]
      rw [z]; exact r
    · have z : vl (k + 1) v n = vl k ((v.toUInt64 >>> ((7 : Int32) &&& 0x3f).toInt64.toUInt64).toInt64) (n + (1 : Int32)) := by simp only [vl]; rw [if_neg q]
      rw [z] at hv ⊢
      exact r.trans (ih _ _ hv)
theorem d1_0 : decode prog_28_method_4_code 0 = .ok (.iconst 1, 1) := by decide +kernel
theorem d1_1 : decode prog_28_method_4_code 1 = .ok (.istore_n 2, 1) := by decide +kernel
theorem d1_23 : decode prog_28_method_4_code 23 = .ok (.iload_n 2, 1) := by decide +kernel
def Q_rm1 (Z : State) (q0 : Int64) (h0 : Heap) (n0 : Nat) (v : Option Value) (h : Heap) (L : List Loc) : Prop := v = some (.int (vl 10 q0 (1 : Int32)).2) ∧ Fr n0 L ∧ h = h0
theorem pn_1 : plainName "com/example/windward/windward/storage/VarInts" = true := by first | (simp [plainName, overriddenIn]; done) | decide +kernel
theorem ef_1 (m : MethodId) (x0 : Int64) : entryFrame m #[(.long x0)] 3 = mkF m 0 #[.val (.long x0), .second, .unset] [] := by first | (simp [entryFrame, mkF, argsToLocals, Value.category]; done) | rfl
theorem d1_24 : decode prog_28_method_4_code 24 = .ok (.ireturn, 1) := by decide +kernel
set_option maxRecDepth 65536 in
set_option maxHeartbeats 40000000 in
theorem rm1 (l : Launch) (Z : State) (a0 : Array Value) (hw : ∀ d ∈ tables_1, d.before a0 Z = true) (ws : List Jvm.Cond) (q0 : Int64) (h0 : Heap) (n0 : Nat) (Z0 : n0 ≤ h0.size) (hend : ∀ (v : Int64) (n : Int32), ((vl 10 v n).1 &&& (-128 : Int64)) = (0 : Int64)) :
    MetFree l (⟨"com/example/windward/windward/storage/VarInts", "length", "(J)I"⟩ : MethodName) (head1 (Jvm.Cond.code (⟨"com/example/windward/windward/storage/VarInts", "length", "(J)I"⟩ : MethodName) prog_28_method_4_code 3 (some .int) :: ws) ({ frames := 0, cells := 0, slots := 0, locals := 0 } : Room)) (fun a U => a = #[(.long q0)] ∧ Z.Warmed39 U.vm ∧ U.heap = h0) (fun _ _ _ _ _ => True) (fun _ U o U' => ∃ v L, o = .returned v ∧ Q_rm1 Z q0 h0 n0 v U'.heap L ∧ FrameEnd U o U' L ({ frames := 0, cells := 0, slots := 0, locals := 0 } : Room).cells ({ frames := 0, cells := 0, slots := 0, locals := 0 } : Room).slots) := by
  refine MetFree.of_bodySF (plainFor_of_name pn_1) hisR ?_
  intro p e s m args below meth c s₁ Bd hml0 hP hK
  obtain ⟨rfl, hZ, hh⟩ := hP
  have hx := Bd.exec
  have hby := Bd.bytes
  have hml : c.maxLocals = 3 := hml0
  have hown : s.vm.findClass "com/example/windward/windward/storage/VarInts" = some m.cls := findClass_of_methodNamed Bd.named
  have hnm := (name_of_methodNamed Bd.named Bd.method).1
  have X0 : Stand p l e ({ frames := 0, cells := 0, slots := 0, locals := 0 } : Room) s m #[(.long q0)] below meth c s₁ [] 0 0 := Stand.of_body Bd
  have e0 : s₁.heap = h0 := by rw [← hh, Bd.state]; rfl
  have N0 := Fr.nil n0
  have Kp0 : Keep h0 h0 [] := Keep.refl _ _
  have K0 : Steps p.tables e below (s₁.setTop (entryFrame m #[(.long q0)] 3)) (s₁.setTop (mkF m 0 #[.val (.long q0), .second, .unset] [])) := castTop (ef_1 m q0) (Steps.refl _)
  have K1 : Steps p.tables e below _ (s₁.setTop (mkF m 2 #[.val (.long q0), .second, .val (.int (1 : Int32))] [])) := K0.trans (by
    show Steps p.tables e below (s₁.setTop (mkF m 0 #[.val (.long q0), .second, .unset] [])) _
    refine XS.iconst X0.here hx rfl (hb hby d1_0) ?_
    show Steps p.tables e below (s₁.setTop (mkF m 1 #[.val (.long q0), .second, .unset] [(.int (1 : Int32))])) _
    refine XS.istoreN X0.here hx rfl (hb hby d1_1) rfl (l' := #[.val (.long q0), .second, .val (.int (1 : Int32))]) rfl ?_
    show Steps p.tables e below (s₁.setTop (mkF m 2 #[.val (.long q0), .second, .val (.int (1 : Int32))] [])) _
    exact Steps.refl _)
  have K2 : Steps p.tables e below _ (s₁.setTop (mkF m 23 #[.val (.long (vl 10 q0 (1 : Int32)).1), .second, .val (.int (vl 10 q0 (1 : Int32)).2)] [])) := K1.trans (loop hx hZ hw hby hml hown _ _ _ _ _ X0 e0 Z0 10 q0 (1 : Int32) (hend q0 (1 : Int32)))
  have K3 : Steps p.tables e below _ (s₁.setTop (mkF m 24 #[.val (.long (vl 10 q0 (1 : Int32)).1), .second, .val (.int (vl 10 q0 (1 : Int32)).2)] [(.int (vl 10 q0 (1 : Int32)).2)])) := K2.trans (by
    show Steps p.tables e below (s₁.setTop (mkF m 23 #[.val (.long (vl 10 q0 (1 : Int32)).1), .second, .val (.int (vl 10 q0 (1 : Int32)).2)] [])) _
    refine XS.iloadN X0.here hx rfl (hb hby d1_23) rfl ?_
    show Steps p.tables e below (s₁.setTop (mkF m 24 #[.val (.long (vl 10 q0 (1 : Int32)).1), .second, .val (.int (vl 10 q0 (1 : Int32)).2)] [(.int (vl 10 q0 (1 : Int32)).2)])) _
    exact Steps.refl _)
  obtain ⟨fs, hr, hrun, hended, hW, hsame⟩ := X0.leave (v := some (.int (vl 10 q0 (1 : Int32)).2)) (fun h => by rw [Bd.returns] at h; cases h)
  refine ⟨_, _, K3.trans (retOut X0 hx Bd.returns rfl (Or.inl ⟨rfl, Or.inl rfl, _, rfl⟩) (hb hby d1_24) hr), hrun, hended, _, _, rfl, ?_, ⟨_, rfl⟩, hW, hsame.mono (by decide) (by first | decide | omega)⟩
  show Q_rm1 Z q0 h0 n0 _ s₁.heap _
  rw [e0]
  exact ⟨rfl, N0, rfl⟩
theorem d2_0 : decode method_2_code 0 = .ok (.lload_n 0, 1) := by decide +kernel
theorem d2_1 : decode method_2_code 1 = .ok (.ldc2_w 7, 3) := by decide +kernel
theorem d2_4 : decode method_2_code 4 = .ok (.lcmp, 1) := by decide +kernel
theorem d2_5 : decode method_2_code 5 = .ok (.ifCond .ge 5, 3) := by decide +kernel
theorem d2_8 : decode method_2_code 8 = .ok (.iconst 1, 1) := by decide +kernel
theorem d2_10 : decode method_2_code 10 = .ok (.lload_n 0, 1) := by decide +kernel
theorem d2_11 : decode method_2_code 11 = .ok (.ldc2_w 9, 3) := by decide +kernel
theorem d2_14 : decode method_2_code 14 = .ok (.lcmp, 1) := by decide +kernel
theorem d2_15 : decode method_2_code 15 = .ok (.ifCond .ge 5, 3) := by decide +kernel
theorem d2_18 : decode method_2_code 18 = .ok (.iconst 2, 1) := by decide +kernel
theorem d2_20 : decode method_2_code 20 = .ok (.lload_n 0, 1) := by decide +kernel
theorem d2_21 : decode method_2_code 21 = .ok (.ldc2_w 11, 3) := by decide +kernel
theorem d2_24 : decode method_2_code 24 = .ok (.lcmp, 1) := by decide +kernel
theorem d2_25 : decode method_2_code 25 = .ok (.ifCond .ge 5, 3) := by decide +kernel
theorem d2_28 : decode method_2_code 28 = .ok (.iconst 3, 1) := by decide +kernel
theorem d2_30 : decode method_2_code 30 = .ok (.lload_n 0, 1) := by decide +kernel
theorem d2_31 : decode method_2_code 31 = .ok (.ldc2_w 13, 3) := by decide +kernel
theorem d2_34 : decode method_2_code 34 = .ok (.lcmp, 1) := by decide +kernel
theorem d2_35 : decode method_2_code 35 = .ok (.ifCond .ge 5, 3) := by decide +kernel
theorem d2_38 : decode method_2_code 38 = .ok (.iconst 4, 1) := by decide +kernel
theorem d2_40 : decode method_2_code 40 = .ok (.lload_n 0, 1) := by decide +kernel
theorem d2_41 : decode method_2_code 41 = .ok (.ldc2_w 15, 3) := by decide +kernel
theorem d2_44 : decode method_2_code 44 = .ok (.lcmp, 1) := by decide +kernel
theorem d2_45 : decode method_2_code 45 = .ok (.ifCond .ge 5, 3) := by decide +kernel
theorem d2_48 : decode method_2_code 48 = .ok (.iconst 5, 1) := by decide +kernel
theorem d2_50 : decode method_2_code 50 = .ok (.lload_n 0, 1) := by decide +kernel
theorem d2_51 : decode method_2_code 51 = .ok (.ldc2_w 17, 3) := by decide +kernel
theorem d2_54 : decode method_2_code 54 = .ok (.lcmp, 1) := by decide +kernel
theorem d2_55 : decode method_2_code 55 = .ok (.ifCond .ge 6, 3) := by decide +kernel
theorem d2_58 : decode method_2_code 58 = .ok (.bipush 6, 2) := by decide +kernel
theorem d2_61 : decode method_2_code 61 = .ok (.lload_n 0, 1) := by decide +kernel
theorem d2_62 : decode method_2_code 62 = .ok (.ldc2_w 19, 3) := by decide +kernel
theorem d2_65 : decode method_2_code 65 = .ok (.lcmp, 1) := by decide +kernel
theorem d2_66 : decode method_2_code 66 = .ok (.ifCond .ge 6, 3) := by decide +kernel
theorem d2_69 : decode method_2_code 69 = .ok (.bipush 7, 2) := by decide +kernel
theorem d2_72 : decode method_2_code 72 = .ok (.lload_n 0, 1) := by decide +kernel
theorem d2_73 : decode method_2_code 73 = .ok (.ldc2_w 21, 3) := by decide +kernel
theorem d2_76 : decode method_2_code 76 = .ok (.lcmp, 1) := by decide +kernel
theorem d2_77 : decode method_2_code 77 = .ok (.ifCond .ge 6, 3) := by decide +kernel
theorem d2_80 : decode method_2_code 80 = .ok (.bipush 8, 2) := by decide +kernel
theorem d2_83 : decode method_2_code 83 = .ok (.bipush 9, 2) := by decide +kernel
def f_rm2 (q0 : Int64) : Int32 := (if q0 < (128 : Int64) then (1 : Int32) else (if q0 < (16384 : Int64) then (2 : Int32) else (if q0 < (2097152 : Int64) then (3 : Int32) else (if q0 < (268435456 : Int64) then (4 : Int32) else (if q0 < (34359738368 : Int64) then (5 : Int32) else (if q0 < (4398046511104 : Int64) then (6 : Int32) else (if q0 < (562949953421312 : Int64) then (7 : Int32) else (if q0 < (72057594037927936 : Int64) then (8 : Int32) else (9 : Int32)))))))))
def Q_rm2 (Z : State) (q0 : Int64) (h0 : Heap) (n0 : Nat) (v : Option Value) (h : Heap) (L : List Loc) : Prop := v = some (.int (f_rm2 q0)) ∧ Fr n0 L ∧ h = h0
theorem pn_2 : plainName "com/example/windward/windward/storage/VarIntsLengthPinLaw" = true := by first | (simp [plainName, overriddenIn]; done) | decide +kernel
theorem ef_2 (m : MethodId) (x0 : Int64) : entryFrame m #[(.long x0)] 2 = mkF m 0 #[.val (.long x0), .second] [] := by first | (simp [entryFrame, mkF, argsToLocals, Value.category]; done) | rfl
theorem d2_9 : decode method_2_code 9 = .ok (.ireturn, 1) := by decide +kernel
theorem d2_19 : decode method_2_code 19 = .ok (.ireturn, 1) := by decide +kernel
theorem d2_29 : decode method_2_code 29 = .ok (.ireturn, 1) := by decide +kernel
theorem d2_39 : decode method_2_code 39 = .ok (.ireturn, 1) := by decide +kernel
theorem d2_49 : decode method_2_code 49 = .ok (.ireturn, 1) := by decide +kernel
theorem d2_60 : decode method_2_code 60 = .ok (.ireturn, 1) := by decide +kernel
theorem d2_71 : decode method_2_code 71 = .ok (.ireturn, 1) := by decide +kernel
theorem d2_82 : decode method_2_code 82 = .ok (.ireturn, 1) := by decide +kernel
theorem d2_85 : decode method_2_code 85 = .ok (.ireturn, 1) := by decide +kernel
set_option maxRecDepth 65536 in
set_option maxHeartbeats 40000000 in
theorem rm2 (l : Launch) (Z : State) (a0 : Array Value) (hw : ∀ d ∈ tables_1, d.before a0 Z = true) (ws : List Jvm.Cond) (q0 : Int64) (h0 : Heap) (n0 : Nat) (Z0 : n0 ≤ h0.size) :
    MetFree l (⟨"com/example/windward/windward/storage/VarIntsLengthPinLaw", "expected", "(J)I"⟩ : MethodName) (head1 (Jvm.Cond.code (⟨"com/example/windward/windward/storage/VarIntsLengthPinLaw", "expected", "(J)I"⟩ : MethodName) method_2_code 2 (some .int) :: ws) ({ frames := 0, cells := 0, slots := 0, locals := 0 } : Room)) (fun a U => a = #[(.long q0)] ∧ Z.Warmed39 U.vm ∧ U.heap = h0) (fun _ _ _ _ _ => True) (fun _ U o U' => ∃ v L, o = .returned v ∧ Q_rm2 Z q0 h0 n0 v U'.heap L ∧ FrameEnd U o U' L ({ frames := 0, cells := 0, slots := 0, locals := 0 } : Room).cells ({ frames := 0, cells := 0, slots := 0, locals := 0 } : Room).slots) := by
  refine MetFree.of_bodySF (plainFor_of_name pn_2) hisR ?_
  intro p e s m args below meth c s₁ Bd hml0 hP hK
  obtain ⟨rfl, hZ, hh⟩ := hP
  have hx := Bd.exec
  have hby := Bd.bytes
  have hml : c.maxLocals = 2 := hml0
  have hown : s.vm.findClass "com/example/windward/windward/storage/VarIntsLengthPinLaw" = some m.cls := findClass_of_methodNamed Bd.named
  have hnm := (name_of_methodNamed Bd.named Bd.method).1
  have X0 : Stand p l e ({ frames := 0, cells := 0, slots := 0, locals := 0 } : Room) s m #[(.long q0)] below meth c s₁ [] 0 0 := Stand.of_body Bd
  have e0 : s₁.heap = h0 := by rw [← hh, Bd.state]; rfl
  have N0 := Fr.nil n0
  have Kp0 : Keep h0 h0 [] := Keep.refl _ _
  have K0 : Steps p.tables e below (s₁.setTop (entryFrame m #[(.long q0)] 2)) (s₁.setTop (mkF m 0 #[.val (.long q0), .second] [])) := castTop (ef_2 m q0) (Steps.refl _)
  have K1 : Steps p.tables e below _ (s₁.setTop (mkF m 5 #[.val (.long q0), .second] [(.int (lcmpW q0 (128 : Int64)))])) := K0.trans (by
    show Steps p.tables e below (s₁.setTop (mkF m 0 #[.val (.long q0), .second] [])) _
    refine XS.lloadN X0.here hx rfl (hb hby d2_0) rfl ?_
    show Steps p.tables e below (s₁.setTop (mkF m 1 #[.val (.long q0), .second] [(.long q0)])) _
    refine X0.ldc2Long hx hown (mvT hZ (hw _ (List.mem_of_getElem? (i := 11) rfl))) (g := (mkF m 1 #[.val (.long q0), .second] [(.long q0)])) rfl (hb hby d2_1) _ ?_
    show Steps p.tables e below (s₁.setTop (mkF m 4 #[.val (.long q0), .second] [(.long (128 : Int64)), (.long q0)])) _
    refine XS.lcmp X0.here hx rfl (hb hby d2_4) rfl ?_
    show Steps p.tables e below (s₁.setTop (mkF m 5 #[.val (.long q0), .second] [(.int (lcmpW q0 (128 : Int64)))])) _
    exact Steps.refl _)
  by_cases hc5 : q0 < (128 : Int64)
  · have K2 : Steps p.tables e below _ (s₁.setTop (mkF m 9 #[.val (.long q0), .second] [(.int (1 : Int32))])) := K1.trans (by
      show Steps p.tables e below (s₁.setTop (mkF m 5 #[.val (.long q0), .second] [(.int (lcmpW q0 (128 : Int64)))])) _
      refine XS.ifNo X0.here hx rfl (hb hby d2_5) rfl ((if0 _ _).trans (tlt ((lw_lt q0 (128 : Int64)).mpr hc5)).2.1) ?_
      show Steps p.tables e below (s₁.setTop (mkF m 8 #[.val (.long q0), .second] [])) _
      refine XS.iconst X0.here hx rfl (hb hby d2_8) ?_
      show Steps p.tables e below (s₁.setTop (mkF m 9 #[.val (.long q0), .second] [(.int (1 : Int32))])) _
      exact Steps.refl _)
    obtain ⟨fs, hr, hrun, hended, hW, hsame⟩ := X0.leave (v := some (.int (1 : Int32))) (fun h => by rw [Bd.returns] at h; cases h)
    refine ⟨_, _, K2.trans (retOut X0 hx Bd.returns rfl (Or.inl ⟨rfl, Or.inl rfl, _, rfl⟩) (hb hby d2_9) hr), hrun, hended, _, _, rfl, ?_, ⟨_, rfl⟩, hW, hsame.mono (by decide) (by first | decide | omega)⟩
    show Q_rm2 Z q0 h0 n0 _ s₁.heap _
    rw [e0]
    exact ⟨(by unfold f_rm2; rw [if_pos hc5]), N0, rfl⟩
  · have K3 : Steps p.tables e below _ (s₁.setTop (mkF m 15 #[.val (.long q0), .second] [(.int (lcmpW q0 (16384 : Int64)))])) := K1.trans (by
      show Steps p.tables e below (s₁.setTop (mkF m 5 #[.val (.long q0), .second] [(.int (lcmpW q0 (128 : Int64)))])) _
      refine XS.ifYes X0.here hx rfl (pc0 := 5) (pc' := 10) rfl (hb hby d2_5) rfl ((if0 _ _).trans (flt (fun z => hc5 ((lw_lt q0 (128 : Int64)).mp z))).2.1) (by decide) (by decide) ?_
      show Steps p.tables e below (s₁.setTop (mkF m 10 #[.val (.long q0), .second] [])) _
      refine XS.lloadN X0.here hx rfl (hb hby d2_10) rfl ?_
      show Steps p.tables e below (s₁.setTop (mkF m 11 #[.val (.long q0), .second] [(.long q0)])) _
      refine X0.ldc2Long hx hown (mvT hZ (hw _ (List.mem_of_getElem? (i := 12) rfl))) (g := (mkF m 11 #[.val (.long q0), .second] [(.long q0)])) rfl (hb hby d2_11) _ ?_
      show Steps p.tables e below (s₁.setTop (mkF m 14 #[.val (.long q0), .second] [(.long (16384 : Int64)), (.long q0)])) _
      refine XS.lcmp X0.here hx rfl (hb hby d2_14) rfl ?_
      show Steps p.tables e below (s₁.setTop (mkF m 15 #[.val (.long q0), .second] [(.int (lcmpW q0 (16384 : Int64)))])) _
      exact Steps.refl _)
    by_cases hc15 : q0 < (16384 : Int64)
    · have K4 : Steps p.tables e below _ (s₁.setTop (mkF m 19 #[.val (.long q0), .second] [(.int (2 : Int32))])) := K3.trans (by
        show Steps p.tables e below (s₁.setTop (mkF m 15 #[.val (.long q0), .second] [(.int (lcmpW q0 (16384 : Int64)))])) _
        refine XS.ifNo X0.here hx rfl (hb hby d2_15) rfl ((if0 _ _).trans (tlt ((lw_lt q0 (16384 : Int64)).mpr hc15)).2.1) ?_
        show Steps p.tables e below (s₁.setTop (mkF m 18 #[.val (.long q0), .second] [])) _
        refine XS.iconst X0.here hx rfl (hb hby d2_18) ?_
        show Steps p.tables e below (s₁.setTop (mkF m 19 #[.val (.long q0), .second] [(.int (2 : Int32))])) _
        exact Steps.refl _)
      obtain ⟨fs, hr, hrun, hended, hW, hsame⟩ := X0.leave (v := some (.int (2 : Int32))) (fun h => by rw [Bd.returns] at h; cases h)
      refine ⟨_, _, K4.trans (retOut X0 hx Bd.returns rfl (Or.inl ⟨rfl, Or.inl rfl, _, rfl⟩) (hb hby d2_19) hr), hrun, hended, _, _, rfl, ?_, ⟨_, rfl⟩, hW, hsame.mono (by decide) (by first | decide | omega)⟩
      show Q_rm2 Z q0 h0 n0 _ s₁.heap _
      rw [e0]
      exact ⟨(by unfold f_rm2; rw [if_neg hc5, if_pos hc15]), N0, rfl⟩
    · have K5 : Steps p.tables e below _ (s₁.setTop (mkF m 25 #[.val (.long q0), .second] [(.int (lcmpW q0 (2097152 : Int64)))])) := K3.trans (by
        show Steps p.tables e below (s₁.setTop (mkF m 15 #[.val (.long q0), .second] [(.int (lcmpW q0 (16384 : Int64)))])) _
        refine XS.ifYes X0.here hx rfl (pc0 := 15) (pc' := 20) rfl (hb hby d2_15) rfl ((if0 _ _).trans (flt (fun z => hc15 ((lw_lt q0 (16384 : Int64)).mp z))).2.1) (by decide) (by decide) ?_
        show Steps p.tables e below (s₁.setTop (mkF m 20 #[.val (.long q0), .second] [])) _
        refine XS.lloadN X0.here hx rfl (hb hby d2_20) rfl ?_
        show Steps p.tables e below (s₁.setTop (mkF m 21 #[.val (.long q0), .second] [(.long q0)])) _
        refine X0.ldc2Long hx hown (mvT hZ (hw _ (List.mem_of_getElem? (i := 13) rfl))) (g := (mkF m 21 #[.val (.long q0), .second] [(.long q0)])) rfl (hb hby d2_21) _ ?_
        show Steps p.tables e below (s₁.setTop (mkF m 24 #[.val (.long q0), .second] [(.long (2097152 : Int64)), (.long q0)])) _
        refine XS.lcmp X0.here hx rfl (hb hby d2_24) rfl ?_
        show Steps p.tables e below (s₁.setTop (mkF m 25 #[.val (.long q0), .second] [(.int (lcmpW q0 (2097152 : Int64)))])) _
        exact Steps.refl _)
      by_cases hc25 : q0 < (2097152 : Int64)
      · have K6 : Steps p.tables e below _ (s₁.setTop (mkF m 29 #[.val (.long q0), .second] [(.int (3 : Int32))])) := K5.trans (by
          show Steps p.tables e below (s₁.setTop (mkF m 25 #[.val (.long q0), .second] [(.int (lcmpW q0 (2097152 : Int64)))])) _
          refine XS.ifNo X0.here hx rfl (hb hby d2_25) rfl ((if0 _ _).trans (tlt ((lw_lt q0 (2097152 : Int64)).mpr hc25)).2.1) ?_
          show Steps p.tables e below (s₁.setTop (mkF m 28 #[.val (.long q0), .second] [])) _
          refine XS.iconst X0.here hx rfl (hb hby d2_28) ?_
          show Steps p.tables e below (s₁.setTop (mkF m 29 #[.val (.long q0), .second] [(.int (3 : Int32))])) _
          exact Steps.refl _)
        obtain ⟨fs, hr, hrun, hended, hW, hsame⟩ := X0.leave (v := some (.int (3 : Int32))) (fun h => by rw [Bd.returns] at h; cases h)
        refine ⟨_, _, K6.trans (retOut X0 hx Bd.returns rfl (Or.inl ⟨rfl, Or.inl rfl, _, rfl⟩) (hb hby d2_29) hr), hrun, hended, _, _, rfl, ?_, ⟨_, rfl⟩, hW, hsame.mono (by decide) (by first | decide | omega)⟩
        show Q_rm2 Z q0 h0 n0 _ s₁.heap _
        rw [e0]
        exact ⟨(by unfold f_rm2; rw [if_neg hc5, if_neg hc15, if_pos hc25]), N0, rfl⟩
      · have K7 : Steps p.tables e below _ (s₁.setTop (mkF m 35 #[.val (.long q0), .second] [(.int (lcmpW q0 (268435456 : Int64)))])) := K5.trans (by
          show Steps p.tables e below (s₁.setTop (mkF m 25 #[.val (.long q0), .second] [(.int (lcmpW q0 (2097152 : Int64)))])) _
          refine XS.ifYes X0.here hx rfl (pc0 := 25) (pc' := 30) rfl (hb hby d2_25) rfl ((if0 _ _).trans (flt (fun z => hc25 ((lw_lt q0 (2097152 : Int64)).mp z))).2.1) (by decide) (by decide) ?_
          show Steps p.tables e below (s₁.setTop (mkF m 30 #[.val (.long q0), .second] [])) _
          refine XS.lloadN X0.here hx rfl (hb hby d2_30) rfl ?_
          show Steps p.tables e below (s₁.setTop (mkF m 31 #[.val (.long q0), .second] [(.long q0)])) _
          refine X0.ldc2Long hx hown (mvT hZ (hw _ (List.mem_of_getElem? (i := 14) rfl))) (g := (mkF m 31 #[.val (.long q0), .second] [(.long q0)])) rfl (hb hby d2_31) _ ?_
          show Steps p.tables e below (s₁.setTop (mkF m 34 #[.val (.long q0), .second] [(.long (268435456 : Int64)), (.long q0)])) _
          refine XS.lcmp X0.here hx rfl (hb hby d2_34) rfl ?_
          show Steps p.tables e below (s₁.setTop (mkF m 35 #[.val (.long q0), .second] [(.int (lcmpW q0 (268435456 : Int64)))])) _
          exact Steps.refl _)
        by_cases hc35 : q0 < (268435456 : Int64)
        · have K8 : Steps p.tables e below _ (s₁.setTop (mkF m 39 #[.val (.long q0), .second] [(.int (4 : Int32))])) := K7.trans (by
            show Steps p.tables e below (s₁.setTop (mkF m 35 #[.val (.long q0), .second] [(.int (lcmpW q0 (268435456 : Int64)))])) _
            refine XS.ifNo X0.here hx rfl (hb hby d2_35) rfl ((if0 _ _).trans (tlt ((lw_lt q0 (268435456 : Int64)).mpr hc35)).2.1) ?_
            show Steps p.tables e below (s₁.setTop (mkF m 38 #[.val (.long q0), .second] [])) _
            refine XS.iconst X0.here hx rfl (hb hby d2_38) ?_
            show Steps p.tables e below (s₁.setTop (mkF m 39 #[.val (.long q0), .second] [(.int (4 : Int32))])) _
            exact Steps.refl _)
          obtain ⟨fs, hr, hrun, hended, hW, hsame⟩ := X0.leave (v := some (.int (4 : Int32))) (fun h => by rw [Bd.returns] at h; cases h)
          refine ⟨_, _, K8.trans (retOut X0 hx Bd.returns rfl (Or.inl ⟨rfl, Or.inl rfl, _, rfl⟩) (hb hby d2_39) hr), hrun, hended, _, _, rfl, ?_, ⟨_, rfl⟩, hW, hsame.mono (by decide) (by first | decide | omega)⟩
          show Q_rm2 Z q0 h0 n0 _ s₁.heap _
          rw [e0]
          exact ⟨(by unfold f_rm2; rw [if_neg hc5, if_neg hc15, if_neg hc25, if_pos hc35]), N0, rfl⟩
        · have K9 : Steps p.tables e below _ (s₁.setTop (mkF m 45 #[.val (.long q0), .second] [(.int (lcmpW q0 (34359738368 : Int64)))])) := K7.trans (by
            show Steps p.tables e below (s₁.setTop (mkF m 35 #[.val (.long q0), .second] [(.int (lcmpW q0 (268435456 : Int64)))])) _
            refine XS.ifYes X0.here hx rfl (pc0 := 35) (pc' := 40) rfl (hb hby d2_35) rfl ((if0 _ _).trans (flt (fun z => hc35 ((lw_lt q0 (268435456 : Int64)).mp z))).2.1) (by decide) (by decide) ?_
            show Steps p.tables e below (s₁.setTop (mkF m 40 #[.val (.long q0), .second] [])) _
            refine XS.lloadN X0.here hx rfl (hb hby d2_40) rfl ?_
            show Steps p.tables e below (s₁.setTop (mkF m 41 #[.val (.long q0), .second] [(.long q0)])) _
            refine X0.ldc2Long hx hown (mvT hZ (hw _ (List.mem_of_getElem? (i := 15) rfl))) (g := (mkF m 41 #[.val (.long q0), .second] [(.long q0)])) rfl (hb hby d2_41) _ ?_
            show Steps p.tables e below (s₁.setTop (mkF m 44 #[.val (.long q0), .second] [(.long (34359738368 : Int64)), (.long q0)])) _
            refine XS.lcmp X0.here hx rfl (hb hby d2_44) rfl ?_
            show Steps p.tables e below (s₁.setTop (mkF m 45 #[.val (.long q0), .second] [(.int (lcmpW q0 (34359738368 : Int64)))])) _
            exact Steps.refl _)
          by_cases hc45 : q0 < (34359738368 : Int64)
          · have K10 : Steps p.tables e below _ (s₁.setTop (mkF m 49 #[.val (.long q0), .second] [(.int (5 : Int32))])) := K9.trans (by
              show Steps p.tables e below (s₁.setTop (mkF m 45 #[.val (.long q0), .second] [(.int (lcmpW q0 (34359738368 : Int64)))])) _
              refine XS.ifNo X0.here hx rfl (hb hby d2_45) rfl ((if0 _ _).trans (tlt ((lw_lt q0 (34359738368 : Int64)).mpr hc45)).2.1) ?_
              show Steps p.tables e below (s₁.setTop (mkF m 48 #[.val (.long q0), .second] [])) _
              refine XS.iconst X0.here hx rfl (hb hby d2_48) ?_
              show Steps p.tables e below (s₁.setTop (mkF m 49 #[.val (.long q0), .second] [(.int (5 : Int32))])) _
              exact Steps.refl _)
            obtain ⟨fs, hr, hrun, hended, hW, hsame⟩ := X0.leave (v := some (.int (5 : Int32))) (fun h => by rw [Bd.returns] at h; cases h)
            refine ⟨_, _, K10.trans (retOut X0 hx Bd.returns rfl (Or.inl ⟨rfl, Or.inl rfl, _, rfl⟩) (hb hby d2_49) hr), hrun, hended, _, _, rfl, ?_, ⟨_, rfl⟩, hW, hsame.mono (by decide) (by first | decide | omega)⟩
            show Q_rm2 Z q0 h0 n0 _ s₁.heap _
            rw [e0]
            exact ⟨(by unfold f_rm2; rw [if_neg hc5, if_neg hc15, if_neg hc25, if_neg hc35, if_pos hc45]), N0, rfl⟩
          · have K11 : Steps p.tables e below _ (s₁.setTop (mkF m 55 #[.val (.long q0), .second] [(.int (lcmpW q0 (4398046511104 : Int64)))])) := K9.trans (by
              show Steps p.tables e below (s₁.setTop (mkF m 45 #[.val (.long q0), .second] [(.int (lcmpW q0 (34359738368 : Int64)))])) _
              refine XS.ifYes X0.here hx rfl (pc0 := 45) (pc' := 50) rfl (hb hby d2_45) rfl ((if0 _ _).trans (flt (fun z => hc45 ((lw_lt q0 (34359738368 : Int64)).mp z))).2.1) (by decide) (by decide) ?_
              show Steps p.tables e below (s₁.setTop (mkF m 50 #[.val (.long q0), .second] [])) _
              refine XS.lloadN X0.here hx rfl (hb hby d2_50) rfl ?_
              show Steps p.tables e below (s₁.setTop (mkF m 51 #[.val (.long q0), .second] [(.long q0)])) _
              refine X0.ldc2Long hx hown (mvT hZ (hw _ (List.mem_of_getElem? (i := 16) rfl))) (g := (mkF m 51 #[.val (.long q0), .second] [(.long q0)])) rfl (hb hby d2_51) _ ?_
              show Steps p.tables e below (s₁.setTop (mkF m 54 #[.val (.long q0), .second] [(.long (4398046511104 : Int64)), (.long q0)])) _
              refine XS.lcmp X0.here hx rfl (hb hby d2_54) rfl ?_
              show Steps p.tables e below (s₁.setTop (mkF m 55 #[.val (.long q0), .second] [(.int (lcmpW q0 (4398046511104 : Int64)))])) _
              exact Steps.refl _)
            by_cases hc55 : q0 < (4398046511104 : Int64)
            · have K12 : Steps p.tables e below _ (s₁.setTop (mkF m 60 #[.val (.long q0), .second] [(.int (6 : Int32))])) := K11.trans (by
                show Steps p.tables e below (s₁.setTop (mkF m 55 #[.val (.long q0), .second] [(.int (lcmpW q0 (4398046511104 : Int64)))])) _
                refine XS.ifNo X0.here hx rfl (hb hby d2_55) rfl ((if0 _ _).trans (tlt ((lw_lt q0 (4398046511104 : Int64)).mpr hc55)).2.1) ?_
                show Steps p.tables e below (s₁.setTop (mkF m 58 #[.val (.long q0), .second] [])) _
                refine XS.bipush X0.here hx rfl (hb hby d2_58) ?_
                show Steps p.tables e below (s₁.setTop (mkF m 60 #[.val (.long q0), .second] [(.int (6 : Int32))])) _
                exact Steps.refl _)
              obtain ⟨fs, hr, hrun, hended, hW, hsame⟩ := X0.leave (v := some (.int (6 : Int32))) (fun h => by rw [Bd.returns] at h; cases h)
              refine ⟨_, _, K12.trans (retOut X0 hx Bd.returns rfl (Or.inl ⟨rfl, Or.inl rfl, _, rfl⟩) (hb hby d2_60) hr), hrun, hended, _, _, rfl, ?_, ⟨_, rfl⟩, hW, hsame.mono (by decide) (by first | decide | omega)⟩
              show Q_rm2 Z q0 h0 n0 _ s₁.heap _
              rw [e0]
              exact ⟨(by unfold f_rm2; rw [if_neg hc5, if_neg hc15, if_neg hc25, if_neg hc35, if_neg hc45, if_pos hc55]), N0, rfl⟩
            · have K13 : Steps p.tables e below _ (s₁.setTop (mkF m 66 #[.val (.long q0), .second] [(.int (lcmpW q0 (562949953421312 : Int64)))])) := K11.trans (by
                show Steps p.tables e below (s₁.setTop (mkF m 55 #[.val (.long q0), .second] [(.int (lcmpW q0 (4398046511104 : Int64)))])) _
                refine XS.ifYes X0.here hx rfl (pc0 := 55) (pc' := 61) rfl (hb hby d2_55) rfl ((if0 _ _).trans (flt (fun z => hc55 ((lw_lt q0 (4398046511104 : Int64)).mp z))).2.1) (by decide) (by decide) ?_
                show Steps p.tables e below (s₁.setTop (mkF m 61 #[.val (.long q0), .second] [])) _
                refine XS.lloadN X0.here hx rfl (hb hby d2_61) rfl ?_
                show Steps p.tables e below (s₁.setTop (mkF m 62 #[.val (.long q0), .second] [(.long q0)])) _
                refine X0.ldc2Long hx hown (mvT hZ (hw _ (List.mem_of_getElem? (i := 17) rfl))) (g := (mkF m 62 #[.val (.long q0), .second] [(.long q0)])) rfl (hb hby d2_62) _ ?_
                show Steps p.tables e below (s₁.setTop (mkF m 65 #[.val (.long q0), .second] [(.long (562949953421312 : Int64)), (.long q0)])) _
                refine XS.lcmp X0.here hx rfl (hb hby d2_65) rfl ?_
                show Steps p.tables e below (s₁.setTop (mkF m 66 #[.val (.long q0), .second] [(.int (lcmpW q0 (562949953421312 : Int64)))])) _
                exact Steps.refl _)
              by_cases hc66 : q0 < (562949953421312 : Int64)
              · have K14 : Steps p.tables e below _ (s₁.setTop (mkF m 71 #[.val (.long q0), .second] [(.int (7 : Int32))])) := K13.trans (by
                  show Steps p.tables e below (s₁.setTop (mkF m 66 #[.val (.long q0), .second] [(.int (lcmpW q0 (562949953421312 : Int64)))])) _
                  refine XS.ifNo X0.here hx rfl (hb hby d2_66) rfl ((if0 _ _).trans (tlt ((lw_lt q0 (562949953421312 : Int64)).mpr hc66)).2.1) ?_
                  show Steps p.tables e below (s₁.setTop (mkF m 69 #[.val (.long q0), .second] [])) _
                  refine XS.bipush X0.here hx rfl (hb hby d2_69) ?_
                  show Steps p.tables e below (s₁.setTop (mkF m 71 #[.val (.long q0), .second] [(.int (7 : Int32))])) _
                  exact Steps.refl _)
                obtain ⟨fs, hr, hrun, hended, hW, hsame⟩ := X0.leave (v := some (.int (7 : Int32))) (fun h => by rw [Bd.returns] at h; cases h)
                refine ⟨_, _, K14.trans (retOut X0 hx Bd.returns rfl (Or.inl ⟨rfl, Or.inl rfl, _, rfl⟩) (hb hby d2_71) hr), hrun, hended, _, _, rfl, ?_, ⟨_, rfl⟩, hW, hsame.mono (by decide) (by first | decide | omega)⟩
                show Q_rm2 Z q0 h0 n0 _ s₁.heap _
                rw [e0]
                exact ⟨(by unfold f_rm2; rw [if_neg hc5, if_neg hc15, if_neg hc25, if_neg hc35, if_neg hc45, if_neg hc55, if_pos hc66]), N0, rfl⟩
              · have K15 : Steps p.tables e below _ (s₁.setTop (mkF m 77 #[.val (.long q0), .second] [(.int (lcmpW q0 (72057594037927936 : Int64)))])) := K13.trans (by
                  show Steps p.tables e below (s₁.setTop (mkF m 66 #[.val (.long q0), .second] [(.int (lcmpW q0 (562949953421312 : Int64)))])) _
                  refine XS.ifYes X0.here hx rfl (pc0 := 66) (pc' := 72) rfl (hb hby d2_66) rfl ((if0 _ _).trans (flt (fun z => hc66 ((lw_lt q0 (562949953421312 : Int64)).mp z))).2.1) (by decide) (by decide) ?_
                  show Steps p.tables e below (s₁.setTop (mkF m 72 #[.val (.long q0), .second] [])) _
                  refine XS.lloadN X0.here hx rfl (hb hby d2_72) rfl ?_
                  show Steps p.tables e below (s₁.setTop (mkF m 73 #[.val (.long q0), .second] [(.long q0)])) _
                  refine X0.ldc2Long hx hown (mvT hZ (hw _ (List.mem_of_getElem? (i := 18) rfl))) (g := (mkF m 73 #[.val (.long q0), .second] [(.long q0)])) rfl (hb hby d2_73) _ ?_
                  show Steps p.tables e below (s₁.setTop (mkF m 76 #[.val (.long q0), .second] [(.long (72057594037927936 : Int64)), (.long q0)])) _
                  refine XS.lcmp X0.here hx rfl (hb hby d2_76) rfl ?_
                  show Steps p.tables e below (s₁.setTop (mkF m 77 #[.val (.long q0), .second] [(.int (lcmpW q0 (72057594037927936 : Int64)))])) _
                  exact Steps.refl _)
                by_cases hc77 : q0 < (72057594037927936 : Int64)
                · have K16 : Steps p.tables e below _ (s₁.setTop (mkF m 82 #[.val (.long q0), .second] [(.int (8 : Int32))])) := K15.trans (by
                    show Steps p.tables e below (s₁.setTop (mkF m 77 #[.val (.long q0), .second] [(.int (lcmpW q0 (72057594037927936 : Int64)))])) _
                    refine XS.ifNo X0.here hx rfl (hb hby d2_77) rfl ((if0 _ _).trans (tlt ((lw_lt q0 (72057594037927936 : Int64)).mpr hc77)).2.1) ?_
                    show Steps p.tables e below (s₁.setTop (mkF m 80 #[.val (.long q0), .second] [])) _
                    refine XS.bipush X0.here hx rfl (hb hby d2_80) ?_
                    show Steps p.tables e below (s₁.setTop (mkF m 82 #[.val (.long q0), .second] [(.int (8 : Int32))])) _
                    exact Steps.refl _)
                  obtain ⟨fs, hr, hrun, hended, hW, hsame⟩ := X0.leave (v := some (.int (8 : Int32))) (fun h => by rw [Bd.returns] at h; cases h)
                  refine ⟨_, _, K16.trans (retOut X0 hx Bd.returns rfl (Or.inl ⟨rfl, Or.inl rfl, _, rfl⟩) (hb hby d2_82) hr), hrun, hended, _, _, rfl, ?_, ⟨_, rfl⟩, hW, hsame.mono (by decide) (by first | decide | omega)⟩
                  show Q_rm2 Z q0 h0 n0 _ s₁.heap _
                  rw [e0]
                  exact ⟨(by unfold f_rm2; rw [if_neg hc5, if_neg hc15, if_neg hc25, if_neg hc35, if_neg hc45, if_neg hc55, if_neg hc66, if_pos hc77]), N0, rfl⟩
                · have K17 : Steps p.tables e below _ (s₁.setTop (mkF m 85 #[.val (.long q0), .second] [(.int (9 : Int32))])) := K15.trans (by
                    show Steps p.tables e below (s₁.setTop (mkF m 77 #[.val (.long q0), .second] [(.int (lcmpW q0 (72057594037927936 : Int64)))])) _
                    refine XS.ifYes X0.here hx rfl (pc0 := 77) (pc' := 83) rfl (hb hby d2_77) rfl ((if0 _ _).trans (flt (fun z => hc77 ((lw_lt q0 (72057594037927936 : Int64)).mp z))).2.1) (by decide) (by decide) ?_
                    show Steps p.tables e below (s₁.setTop (mkF m 83 #[.val (.long q0), .second] [])) _
                    refine XS.bipush X0.here hx rfl (hb hby d2_83) ?_
                    show Steps p.tables e below (s₁.setTop (mkF m 85 #[.val (.long q0), .second] [(.int (9 : Int32))])) _
                    exact Steps.refl _)
                  obtain ⟨fs, hr, hrun, hended, hW, hsame⟩ := X0.leave (v := some (.int (9 : Int32))) (fun h => by rw [Bd.returns] at h; cases h)
                  refine ⟨_, _, K17.trans (retOut X0 hx Bd.returns rfl (Or.inl ⟨rfl, Or.inl rfl, _, rfl⟩) (hb hby d2_85) hr), hrun, hended, _, _, rfl, ?_, ⟨_, rfl⟩, hW, hsame.mono (by decide) (by first | decide | omega)⟩
                  show Q_rm2 Z q0 h0 n0 _ s₁.heap _
                  rw [e0]
                  exact ⟨(by unfold f_rm2; rw [if_neg hc5, if_neg hc15, if_neg hc25, if_neg hc35, if_neg hc45, if_neg hc55, if_neg hc66, if_neg hc77]), N0, rfl⟩
theorem pd_0 : parseMethodDescriptor "(J)I" = some ⟨[.long], some .int⟩ := by decide +kernel
theorem own_mask : ∀ i : Fin 64, 7 ≤ i.1 → (-128 : Int64).toBitVec.getLsbD i.1 = true := by decide +kernel
theorem own_mask0 : ∀ i : Fin 64, i.1 < 7 → (-128 : Int64).toBitVec.getLsbD i.1 = false := by decide +kernel
theorem own_hi (v : Int64) : (v &&& (-128 : Int64)) = (0 : Int64) ↔ v.toBitVec.toNat < 128 := by
  constructor
  · intro h
    apply Nat.lt_pow_two_of_testBit (n := 7)
    intro i hi
    by_cases h64 : i < 64
    · have q : (v &&& (-128 : Int64)).toBitVec.getLsbD i = (0 : Int64).toBitVec.getLsbD i := by rw [h]
      rw [Int64.toBitVec_and, BitVec.getLsbD_and, own_mask ⟨i, h64⟩ hi, Bool.and_true] at q
      rw [BitVec.testBit_toNat, q]
      show (0#64).getLsbD i = false
      simp
    · exact Nat.testBit_lt_two_pow (Nat.lt_of_lt_of_le v.toBitVec.isLt (Nat.pow_le_pow_right (by decide) (by omega)))
  · intro h
    apply Int64.toBitVec_inj.mp
    apply BitVec.eq_of_getLsbD_eq
    intro i hi
    rw [Int64.toBitVec_and, BitVec.getLsbD_and]
    have z : (0 : Int64).toBitVec.getLsbD i = false := by show (0#64).getLsbD i = false; simp
    rw [z]
    by_cases h7 : i < 7
    · rw [own_mask0 ⟨i, hi⟩ h7, Bool.and_false]
    · rw [← BitVec.testBit_toNat, Nat.testBit_lt_two_pow (Nat.lt_of_lt_of_le h (show 128 ≤ 2 ^ i from Nat.pow_le_pow_right (n := 2) (by decide) (by omega : 7 ≤ i))), Bool.false_and]
theorem own_nn (v : Int64) : (v.toBitVec.toNat : Int) = v.toInt % 18446744073709551616 := by
  have h := v.toBitVec.isLt
  show _ = v.toBitVec.toInt % 18446744073709551616
  rw [BitVec.toInt_eq_toNat_bmod]
  have := Jvm.RoadKit.bm64 (v.toBitVec.toNat : Int)
  omega
theorem own_sh (v : Int64) : (((v.toUInt64 >>> ((7 : Int32) &&& 0x3f).toInt64.toUInt64).toInt64)).toBitVec.toNat = v.toBitVec.toNat / 128 := by
  have h1 := Jvm.RoadKit.c_lushr v (7 : Int32) 7 (by decide) (by decide)
  have h2 := own_nn v
  have h3 := own_nn (((v.toUInt64 >>> ((7 : Int32) &&& 0x3f).toInt64.toUInt64).toInt64))
  have h4 := v.toBitVec.isLt
  omega
theorem own_endk : ∀ (k : Nat) (v : Int64) (n : Int32), v.toBitVec.toNat < 128 ^ (k + 1) → ((vl k v n).1 &&& (-128 : Int64)) = (0 : Int64) := by
  intro k
  induction k with
  | zero => intro v n h; exact (own_hi v).mpr (by simpa using h)
  | succ k ih =>
    intro v n h
    simp only [vl]
    by_cases c : (v &&& (-128 : Int64)) = (0 : Int64)
    · rw [if_pos c]; exact c
    · rw [if_neg c]
      apply ih
      rw [own_sh]
      rw [Nat.pow_succ] at h
      exact Nat.div_lt_of_lt_mul (by rw [Nat.mul_comm]; exact h)
theorem own_end : ∀ (v : Int64) (n : Int32), ((vl 10 v n).1 &&& (-128 : Int64)) = (0 : Int64) := fun v n => own_endk 10 v n (Nat.lt_of_lt_of_le v.toBitVec.isLt (by decide))
theorem own_lt64 {a b : Int64} : a < b ↔ a.toInt < b.toInt := Int64.lt_iff_toInt_lt
theorem own_vl (k : Nat) (v : Int64) (n : Int32) : vl (k + 1) v n = if v.toBitVec.toNat < 128 then (v, n) else vl k (((v.toUInt64 >>> ((7 : Int32) &&& 0x3f).toInt64.toUInt64).toInt64)) (n + (1 : Int32)) := by
  simp only [vl]
  by_cases c : (v &&& (-128 : Int64)) = (0 : Int64)
  · rw [if_pos c, if_pos ((own_hi v).mp c)]
  · rw [if_neg c, if_neg (fun q => c ((own_hi v).mpr q))]
theorem own_pos (q : Int64) (p : Int32) : 0 ≤ (((q &&& (9223372036854775807 : Int64)).toUInt64 >>> (p &&& 0x3f).toInt64.toUInt64).toInt64).toInt := by
  have hk : p.toBitVec.toNat % 64 < 64 := Nat.mod_lt _ (by decide)
  have h0 := Jvm.RoadKit.c_maskL q (9223372036854775807 : Int64) 63 (by decide) (by decide)
  by_cases z : p.toBitVec.toNat % 64 = 0
  · have e : (p &&& 0x3f).toInt64.toUInt64 = 0 := by
      have h := (Jvm.RoadKit.sm64 p 0 z).1
      have : (p &&& 0x3f).toInt64 = 0 := Int64.toBitVec_inj.mp (by rw [h]; rfl)
      rw [this]; rfl
    rw [e]
    have : (((q &&& (9223372036854775807 : Int64)).toUInt64 >>> (0 : UInt64)).toInt64) = (q &&& (9223372036854775807 : Int64)) := by simp
    rw [this, h0]; omega
  · have h1 := Jvm.RoadKit.c_lushr (q &&& (9223372036854775807 : Int64)) p _ rfl (by omega)
    rw [h1]
    exact Int.ediv_nonneg (by omega) (Int.natCast_nonneg _)
theorem own_lnv (v : Int64) (h : 0 ≤ v.toInt) : (vl 10 v (1 : Int32)).2 = f_rm2 v := by
  have hn := own_nn v
  have hr := Jvm.RoadKit.rng64 v
  generalize hN : v.toBitVec.toNat = N at hn
  have hv : v.toInt = (N : Int) := by omega
  unfold f_rm2
  simp only [own_lt64, hv, show (128 : Int64).toInt = 128 from rfl, show (16384 : Int64).toInt = 16384 from rfl, show (2097152 : Int64).toInt = 2097152 from rfl, show (268435456 : Int64).toInt = 268435456 from rfl, show (34359738368 : Int64).toInt = 34359738368 from rfl, show (4398046511104 : Int64).toInt = 4398046511104 from rfl, show (562949953421312 : Int64).toInt = 562949953421312 from rfl, show (72057594037927936 : Int64).toInt = 72057594037927936 from rfl]
  have N63 : N < 9223372036854775808 := by omega
  iterate 9 (rw [own_vl]; simp only [own_sh, hN])
  by_cases h1 : N < 128
  · have h1' : (N : Int) < 128 := by omega
    simp only [h1, h1', if_true]
  · have h1' : ¬ (N : Int) < 128 := by omega
    simp only [h1, h1', if_false]
    by_cases h2 : N / 128 < 128
    · have h2' : (N : Int) < 16384 := by omega
      simp only [h2, h2', if_true]; decide
    · have h2' : ¬ (N : Int) < 16384 := by omega
      simp only [h2, h2', if_false]
      by_cases h3 : N / 128 / 128 < 128
      · have h3' : (N : Int) < 2097152 := by omega
        simp only [h3, h3', if_true]; decide
      · have h3' : ¬ (N : Int) < 2097152 := by omega
        simp only [h3, h3', if_false]
        by_cases h4 : N / 128 / 128 / 128 < 128
        · have h4' : (N : Int) < 268435456 := by omega
          simp only [h4, h4', if_true]; decide
        · have h4' : ¬ (N : Int) < 268435456 := by omega
          simp only [h4, h4', if_false]
          by_cases h5 : N / 128 / 128 / 128 / 128 < 128
          · have h5' : (N : Int) < 34359738368 := by omega
            simp only [h5, h5', if_true]; decide
          · have h5' : ¬ (N : Int) < 34359738368 := by omega
            simp only [h5, h5', if_false]
            by_cases h6 : N / 128 / 128 / 128 / 128 / 128 < 128
            · have h6' : (N : Int) < 4398046511104 := by omega
              simp only [h6, h6', if_true]; decide
            · have h6' : ¬ (N : Int) < 4398046511104 := by omega
              simp only [h6, h6', if_false]
              by_cases h7 : N / 128 / 128 / 128 / 128 / 128 / 128 < 128
              · have h7' : (N : Int) < 562949953421312 := by omega
                simp only [h7, h7', if_true]; decide
              · have h7' : ¬ (N : Int) < 562949953421312 := by omega
                simp only [h7, h7', if_false]
                by_cases h8 : N / 128 / 128 / 128 / 128 / 128 / 128 / 128 < 128
                · have h8' : (N : Int) < 72057594037927936 := by omega
                  simp only [h8, h8', if_true]; decide
                · have h8' : ¬ (N : Int) < 72057594037927936 := by omega
                  simp only [h8, h8', if_false]
                  have h9 : N / 128 / 128 / 128 / 128 / 128 / 128 / 128 / 128 < 128 := by omega
                  simp only [h9, if_true]; decide

def Q_rm0 (n0 : Nat) (v : Option Value) (L : List Loc) : Prop := v = some (.int 1) ∧ Fr n0 L
theorem pn_0 : plainName "com/example/windward/windward/storage/VarIntsLengthPinLaw" = true := by first | (simp [plainName, overriddenIn]; done) | decide +kernel
theorem ef_0 (m : MethodId) (x0 : Int64) (x1 : Int32) : entryFrame m #[(.long x0), (.int x1)] maxLocals = mkF m 0 #[.val (.long x0), .second, .val (.int x1), .unset, .unset, .unset] [] := by first | (simp [entryFrame, mkF, argsToLocals, Value.category, maxLocals]; done) | rfl
set_option maxRecDepth 65536 in
set_option maxHeartbeats 4000000 in
theorem own_law_0 (q0 : Int64) (p1 : Int32) (r3 : Int32) (r7 : Int32) (v9_0 : Int32) (hr3 : (vl 10 (((q0 &&& (9223372036854775807 : Int64)).toUInt64 >>> (((p1 &&& (2147483647 : Int32)) % (64 : Int32)) &&& 0x3f).toInt64.toUInt64).toInt64) (1 : Int32)).2 = r3) (hr7 : (f_rm2 (((q0 &&& (9223372036854775807 : Int64)).toUInt64 >>> (((p1 &&& (2147483647 : Int32)) % (64 : Int32)) &&& 0x3f).toInt64.toUInt64).toInt64)) = r7) (hv9_0 : (if r3 = r7 then (1 : Int32) else (0 : Int32)) = v9_0) : (v9_0 &&& 1) = (1 : Int32) := by
  have h := own_lnv _ (own_pos q0 ((p1 &&& (2147483647 : Int32)) % (64 : Int32)))
  rw [hr3, hr7] at h
  rw [if_pos h] at hv9_0
  subst hv9_0
  decide
set_option maxRecDepth 65536 in
set_option maxHeartbeats 40000000 in
theorem rm0 (l : Launch) (Z : State) (a0 : Array Value) (hw : ∀ d ∈ tables_1, d.before a0 Z = true) (ws : List Jvm.Cond) (q0 : Int64) (p1 : Int32) (h0 : Heap) (n0 : Nat) (Z0 : n0 ≤ h0.size) :
    MetFree l x (head1 (Jvm.Cond.code x code maxLocals ret :: ws) room_1) (fun a U => a = #[(.long q0), (.int p1)] ∧ Z.Warmed39 U.vm ∧ U.heap = h0) (fun _ _ _ _ _ => True) (fun _ U o U' => ∃ v L, o = .returned v ∧ Q_rm0 n0 v L ∧ FrameEnd U o U' L 0 0) := by
  refine MetFree.of_bodySF (plainFor_of_name pn_0) hisR ?_
  intro p e s m args below meth c s₁ Bd hml0 hP hK
  obtain ⟨rfl, hZ, hh⟩ := hP
  have hx := Bd.exec
  have hby := Bd.bytes
  have hml : c.maxLocals = 6 := hml0
  have hown : s.vm.findClass "com/example/windward/windward/storage/VarIntsLengthPinLaw" = some m.cls := findClass_of_methodNamed Bd.named
  have hnm := (name_of_methodNamed Bd.named Bd.method).1
  have X0 : Stand p l e room_1 s m #[(.long q0), (.int p1)] below meth c s₁ [] 0 0 := Stand.of_body Bd
  have e0 : s₁.heap = h0 := by rw [← hh, Bd.state]; rfl
  have N0 := Fr.nil n0
  have K0 : Steps p.tables e below (s₁.setTop (entryFrame m #[(.long q0), (.int p1)] maxLocals)) (s₁.setTop (mkF m 0 #[.val (.long q0), .second, .val (.int p1), .unset, .unset, .unset] [])) := castTop (ef_0 m q0 p1) (Steps.refl _)
  have K1 : Steps p.tables e below _ (s₁.setTop (mkF m 19 #[.val (.long q0), .second, .val (.int p1), .val (.int ((p1 &&& (2147483647 : Int32)) % (64 : Int32))), .val (.long (((q0 &&& (9223372036854775807 : Int64)).toUInt64 >>> (((p1 &&& (2147483647 : Int32)) % (64 : Int32)) &&& 0x3f).toInt64.toUInt64).toInt64)), .second] [(.long (((q0 &&& (9223372036854775807 : Int64)).toUInt64 >>> (((p1 &&& (2147483647 : Int32)) % (64 : Int32)) &&& 0x3f).toInt64.toUInt64).toInt64))])) := K0.trans (by
    show Steps p.tables e below (s₁.setTop (mkF m 0 #[.val (.long q0), .second, .val (.int p1), .unset, .unset, .unset] [])) _
    refine XS.iloadN X0.here hx rfl (hb hby at_0) rfl ?_
    show Steps p.tables e below (s₁.setTop (mkF m 1 #[.val (.long q0), .second, .val (.int p1), .unset, .unset, .unset] [(.int p1)])) _
    refine X0.ldcInt hx hown (mvT hZ (hw _ (List.mem_of_getElem? (i := 0) rfl))) (g := (mkF m 1 #[.val (.long q0), .second, .val (.int p1), .unset, .unset, .unset] [(.int p1)])) rfl (hb hby at_1) _ ?_
    show Steps p.tables e below (s₁.setTop (mkF m 3 #[.val (.long q0), .second, .val (.int p1), .unset, .unset, .unset] [(.int (2147483647 : Int32)), (.int p1)])) _
    refine XS.iand X0.here hx rfl (hb hby at_3) rfl ?_
    show Steps p.tables e below (s₁.setTop (mkF m 4 #[.val (.long q0), .second, .val (.int p1), .unset, .unset, .unset] [(.int (p1 &&& (2147483647 : Int32)))])) _
    refine XS.bipush X0.here hx rfl (hb hby at_4) ?_
    show Steps p.tables e below (s₁.setTop (mkF m 6 #[.val (.long q0), .second, .val (.int p1), .unset, .unset, .unset] [(.int (64 : Int32)), (.int (p1 &&& (2147483647 : Int32)))])) _
    refine iremM X0 hx rfl (hb hby at_6) rfl (by decide) ?_
    show Steps p.tables e below (s₁.setTop (mkF m 7 #[.val (.long q0), .second, .val (.int p1), .unset, .unset, .unset] [(.int ((p1 &&& (2147483647 : Int32)) % (64 : Int32)))])) _
    refine XS.istoreN X0.here hx rfl (hb hby at_7) rfl (l' := #[.val (.long q0), .second, .val (.int p1), .val (.int ((p1 &&& (2147483647 : Int32)) % (64 : Int32))), .unset, .unset]) rfl ?_
    show Steps p.tables e below (s₁.setTop (mkF m 8 #[.val (.long q0), .second, .val (.int p1), .val (.int ((p1 &&& (2147483647 : Int32)) % (64 : Int32))), .unset, .unset] [])) _
    refine XS.lloadN X0.here hx rfl (hb hby at_8) rfl ?_
    show Steps p.tables e below (s₁.setTop (mkF m 9 #[.val (.long q0), .second, .val (.int p1), .val (.int ((p1 &&& (2147483647 : Int32)) % (64 : Int32))), .unset, .unset] [(.long q0)])) _
    refine X0.ldc2Long hx hown (mvT hZ (hw _ (List.mem_of_getElem? (i := 1) rfl))) (g := (mkF m 9 #[.val (.long q0), .second, .val (.int p1), .val (.int ((p1 &&& (2147483647 : Int32)) % (64 : Int32))), .unset, .unset] [(.long q0)])) rfl (hb hby at_9) _ ?_
    show Steps p.tables e below (s₁.setTop (mkF m 12 #[.val (.long q0), .second, .val (.int p1), .val (.int ((p1 &&& (2147483647 : Int32)) % (64 : Int32))), .unset, .unset] [(.long (9223372036854775807 : Int64)), (.long q0)])) _
    refine XS.land X0.here hx rfl (hb hby at_12) rfl ?_
    show Steps p.tables e below (s₁.setTop (mkF m 13 #[.val (.long q0), .second, .val (.int p1), .val (.int ((p1 &&& (2147483647 : Int32)) % (64 : Int32))), .unset, .unset] [(.long (q0 &&& (9223372036854775807 : Int64)))])) _
    refine XS.iloadN X0.here hx rfl (hb hby at_13) rfl ?_
    show Steps p.tables e below (s₁.setTop (mkF m 14 #[.val (.long q0), .second, .val (.int p1), .val (.int ((p1 &&& (2147483647 : Int32)) % (64 : Int32))), .unset, .unset] [(.int ((p1 &&& (2147483647 : Int32)) % (64 : Int32))), (.long (q0 &&& (9223372036854775807 : Int64)))])) _
    refine XS.lushr X0.here hx rfl (hb hby at_14) rfl ?_
    show Steps p.tables e below (s₁.setTop (mkF m 15 #[.val (.long q0), .second, .val (.int p1), .val (.int ((p1 &&& (2147483647 : Int32)) % (64 : Int32))), .unset, .unset] [(.long (((q0 &&& (9223372036854775807 : Int64)).toUInt64 >>> (((p1 &&& (2147483647 : Int32)) % (64 : Int32)) &&& 0x3f).toInt64.toUInt64).toInt64))])) _
    refine XS.lstore X0.here hx rfl (hb hby at_15) rfl (l' := #[.val (.long q0), .second, .val (.int p1), .val (.int ((p1 &&& (2147483647 : Int32)) % (64 : Int32))), .val (.long (((q0 &&& (9223372036854775807 : Int64)).toUInt64 >>> (((p1 &&& (2147483647 : Int32)) % (64 : Int32)) &&& 0x3f).toInt64.toUInt64).toInt64)), .second]) rfl ?_
    show Steps p.tables e below (s₁.setTop (mkF m 17 #[.val (.long q0), .second, .val (.int p1), .val (.int ((p1 &&& (2147483647 : Int32)) % (64 : Int32))), .val (.long (((q0 &&& (9223372036854775807 : Int64)).toUInt64 >>> (((p1 &&& (2147483647 : Int32)) % (64 : Int32)) &&& 0x3f).toInt64.toUInt64).toInt64)), .second] [])) _
    refine XS.lload X0.here hx rfl (hb hby at_17) rfl ?_
    show Steps p.tables e below (s₁.setTop (mkF m 19 #[.val (.long q0), .second, .val (.int p1), .val (.int ((p1 &&& (2147483647 : Int32)) % (64 : Int32))), .val (.long (((q0 &&& (9223372036854775807 : Int64)).toUInt64 >>> (((p1 &&& (2147483647 : Int32)) % (64 : Int32)) &&& 0x3f).toInt64.toUInt64).toInt64)), .second] [(.long (((q0 &&& (9223372036854775807 : Int64)).toUInt64 >>> (((p1 &&& (2147483647 : Int32)) % (64 : Int32)) &&& 0x3f).toInt64.toUInt64).toInt64))])) _
    exact Steps.refl _)
  obtain ⟨_, _, ⟨T2, L2, k2, n2⟩, -, X2, ⟨Lc2, hQ2, l2, y2, z2⟩, st2⟩ := Jvm.LawKit.callS X0 hx (y := (⟨"com/example/windward/windward/storage/VarInts", "length", "(J)I"⟩ : MethodName)) hown (mvT hZ (hw _ (List.mem_of_getElem? (i := 2) rfl))) (mvT hZ (hw _ (List.mem_of_getElem? (i := 3) rfl))) (mvT hZ (hw _ (List.mem_of_getElem? (i := 4) rfl))) (mvT hZ (hw _ (List.mem_of_getElem? (i := 5) rfl))) (by decide) (backOf (W := 0) (rm1 l Z a0 hw [] (((q0 &&& (9223372036854775807 : Int64)).toUInt64 >>> (((p1 &&& (2147483647 : Int32)) % (64 : Int32)) &&& 0x3f).toInt64.toUInt64).toInt64) h0 n0 Z0 (own_end)) hZ (hw _ (List.mem_of_getElem? (i := 5) rfl)) (hw _ (List.mem_of_getElem? (i := 4) rfl)) (by decide) (by decide)) (g := (mkF m 19 #[.val (.long q0), .second, .val (.int p1), .val (.int ((p1 &&& (2147483647 : Int32)) % (64 : Int32))), .val (.long (((q0 &&& (9223372036854775807 : Int64)).toUInt64 >>> (((p1 &&& (2147483647 : Int32)) % (64 : Int32)) &&& 0x3f).toInt64.toUInt64).toInt64)), .second] [(.long (((q0 &&& (9223372036854775807 : Int64)).toUInt64 >>> (((p1 &&& (2147483647 : Int32)) % (64 : Int32)) &&& 0x3f).toInt64.toUInt64).toInt64))])) rfl (by rw [hml]; rfl) (argsL := [(.long (((q0 &&& (9223372036854775807 : Int64)).toUInt64 >>> (((p1 &&& (2147483647 : Int32)) % (64 : Int32)) &&& 0x3f).toInt64.toUInt64).toInt64))]) (rest := []) (lenOf pd_0 rfl) rfl (by show 2 * 0 + _ ≤ _; exact Nat.le_of_eq rfl) (hb hby at_19) (fun _ _ => ⟨rfl, e0, (by decide : 0 + 0 ≤ _), (by decide : 0 + 0 ≤ _)⟩)
  dsimp only [Pt.U, Pt.locs, Pt.cells, Pt.slots] at X2 l2 y2 z2 st2 hQ2
  subst l2 y2 z2
  obtain ⟨rfl, N2, eh2⟩ := hQ2
  have N2' := Fr.app N0 N2
  have K4 : Steps p.tables e below _ (T2.setTop (mkF m 22 #[.val (.long q0), .second, .val (.int p1), .val (.int ((p1 &&& (2147483647 : Int32)) % (64 : Int32))), .val (.long (((q0 &&& (9223372036854775807 : Int64)).toUInt64 >>> (((p1 &&& (2147483647 : Int32)) % (64 : Int32)) &&& 0x3f).toInt64.toUInt64).toInt64)), .second] [(.int (vl 10 (((q0 &&& (9223372036854775807 : Int64)).toUInt64 >>> (((p1 &&& (2147483647 : Int32)) % (64 : Int32)) &&& 0x3f).toInt64.toUInt64).toInt64) (1 : Int32)).2)])) := K1.trans (st2 _ (Steps.refl _))
  obtain ⟨r3, hr3⟩ : ∃ z : Int32, (vl 10 (((q0 &&& (9223372036854775807 : Int64)).toUInt64 >>> (((p1 &&& (2147483647 : Int32)) % (64 : Int32)) &&& 0x3f).toInt64.toUInt64).toInt64) (1 : Int32)).2 = z := ⟨_, rfl⟩
  rw [hr3] at K4
  have K5 : Steps p.tables e below _ (T2.setTop (mkF m 24 #[.val (.long q0), .second, .val (.int p1), .val (.int ((p1 &&& (2147483647 : Int32)) % (64 : Int32))), .val (.long (((q0 &&& (9223372036854775807 : Int64)).toUInt64 >>> (((p1 &&& (2147483647 : Int32)) % (64 : Int32)) &&& 0x3f).toInt64.toUInt64).toInt64)), .second] [(.long (((q0 &&& (9223372036854775807 : Int64)).toUInt64 >>> (((p1 &&& (2147483647 : Int32)) % (64 : Int32)) &&& 0x3f).toInt64.toUInt64).toInt64)), (.int r3)])) := K4.trans (by
    show Steps p.tables e below (T2.setTop (mkF m 22 #[.val (.long q0), .second, .val (.int p1), .val (.int ((p1 &&& (2147483647 : Int32)) % (64 : Int32))), .val (.long (((q0 &&& (9223372036854775807 : Int64)).toUInt64 >>> (((p1 &&& (2147483647 : Int32)) % (64 : Int32)) &&& 0x3f).toInt64.toUInt64).toInt64)), .second] [(.int r3)])) _
    refine XS.lload X2.here hx rfl (hb hby at_22) rfl ?_
    show Steps p.tables e below (T2.setTop (mkF m 24 #[.val (.long q0), .second, .val (.int p1), .val (.int ((p1 &&& (2147483647 : Int32)) % (64 : Int32))), .val (.long (((q0 &&& (9223372036854775807 : Int64)).toUInt64 >>> (((p1 &&& (2147483647 : Int32)) % (64 : Int32)) &&& 0x3f).toInt64.toUInt64).toInt64)), .second] [(.long (((q0 &&& (9223372036854775807 : Int64)).toUInt64 >>> (((p1 &&& (2147483647 : Int32)) % (64 : Int32)) &&& 0x3f).toInt64.toUInt64).toInt64)), (.int r3)])) _
    exact Steps.refl _)
  obtain ⟨_, _, ⟨T6, L6, k6, n6⟩, -, X6, ⟨Lc6, hQ6, l6, y6, z6⟩, st6⟩ := Jvm.LawKit.callS X2 hx (y := (⟨"com/example/windward/windward/storage/VarIntsLengthPinLaw", "expected", "(J)I"⟩ : MethodName)) hown (mvT hZ (hw _ (List.mem_of_getElem? (i := 7) rfl))) (mvT hZ (hw _ (List.mem_of_getElem? (i := 8) rfl))) (mvT hZ (hw _ (List.mem_of_getElem? (i := 9) rfl))) (mvT hZ (hw _ (List.mem_of_getElem? (i := 10) rfl))) (by decide) (backOf (W := 1) (rm2 l Z a0 hw [] (((q0 &&& (9223372036854775807 : Int64)).toUInt64 >>> (((p1 &&& (2147483647 : Int32)) % (64 : Int32)) &&& 0x3f).toInt64.toUInt64).toInt64) h0 n0 Z0 ) hZ (hw _ (List.mem_of_getElem? (i := 10) rfl)) (hw _ (List.mem_of_getElem? (i := 9) rfl)) (by decide) (by decide)) (g := (mkF m 24 #[.val (.long q0), .second, .val (.int p1), .val (.int ((p1 &&& (2147483647 : Int32)) % (64 : Int32))), .val (.long (((q0 &&& (9223372036854775807 : Int64)).toUInt64 >>> (((p1 &&& (2147483647 : Int32)) % (64 : Int32)) &&& 0x3f).toInt64.toUInt64).toInt64)), .second] [(.long (((q0 &&& (9223372036854775807 : Int64)).toUInt64 >>> (((p1 &&& (2147483647 : Int32)) % (64 : Int32)) &&& 0x3f).toInt64.toUInt64).toInt64)), (.int r3)])) rfl (by rw [hml]; rfl) (argsL := [(.long (((q0 &&& (9223372036854775807 : Int64)).toUInt64 >>> (((p1 &&& (2147483647 : Int32)) % (64 : Int32)) &&& 0x3f).toInt64.toUInt64).toInt64))]) (rest := [(.int r3)]) (lenOf pd_0 rfl) rfl (by show 2 * 0 + _ ≤ _; exact Nat.le_of_eq rfl) (hb hby at_24) (fun _ _ => ⟨rfl, eh2, (by decide : 0 + 0 ≤ _), (by decide : 0 + 0 ≤ _)⟩)
  dsimp only [Pt.U, Pt.locs, Pt.cells, Pt.slots] at X6 l6 y6 z6 st6 hQ6
  subst l6 y6 z6
  obtain ⟨rfl, N6, eh6⟩ := hQ6
  have N6' := Fr.app N2' N6
  have K8 : Steps p.tables e below _ (T6.setTop (mkF m 27 #[.val (.long q0), .second, .val (.int p1), .val (.int ((p1 &&& (2147483647 : Int32)) % (64 : Int32))), .val (.long (((q0 &&& (9223372036854775807 : Int64)).toUInt64 >>> (((p1 &&& (2147483647 : Int32)) % (64 : Int32)) &&& 0x3f).toInt64.toUInt64).toInt64)), .second] [(.int (f_rm2 (((q0 &&& (9223372036854775807 : Int64)).toUInt64 >>> (((p1 &&& (2147483647 : Int32)) % (64 : Int32)) &&& 0x3f).toInt64.toUInt64).toInt64))), (.int r3)])) := K5.trans (st6 _ (Steps.refl _))
  obtain ⟨r7, hr7⟩ : ∃ z : Int32, (f_rm2 (((q0 &&& (9223372036854775807 : Int64)).toUInt64 >>> (((p1 &&& (2147483647 : Int32)) % (64 : Int32)) &&& 0x3f).toInt64.toUInt64).toInt64)) = z := ⟨_, rfl⟩
  rw [hr7] at K8
  obtain ⟨v9_0, hv9_0, S9⟩ : ∃ (v9_0 : Int32), (if r3 = r7 then (1 : Int32) else (0 : Int32)) = v9_0 ∧ Steps p.tables e below (T6.setTop (mkF m 27 #[.val (.long q0), .second, .val (.int p1), .val (.int ((p1 &&& (2147483647 : Int32)) % (64 : Int32))), .val (.long (((q0 &&& (9223372036854775807 : Int64)).toUInt64 >>> (((p1 &&& (2147483647 : Int32)) % (64 : Int32)) &&& 0x3f).toInt64.toUInt64).toInt64)), .second] [(.int r7), (.int r3)])) (T6.setTop (mkF m 35 #[.val (.long q0), .second, .val (.int p1), .val (.int ((p1 &&& (2147483647 : Int32)) % (64 : Int32))), .val (.long (((q0 &&& (9223372036854775807 : Int64)).toUInt64 >>> (((p1 &&& (2147483647 : Int32)) % (64 : Int32)) &&& 0x3f).toInt64.toUInt64).toInt64)), .second] [(.int v9_0)])) := by
    have R9 : Steps p.tables e below (T6.setTop (mkF m 27 #[.val (.long q0), .second, .val (.int p1), .val (.int ((p1 &&& (2147483647 : Int32)) % (64 : Int32))), .val (.long (((q0 &&& (9223372036854775807 : Int64)).toUInt64 >>> (((p1 &&& (2147483647 : Int32)) % (64 : Int32)) &&& 0x3f).toInt64.toUInt64).toInt64)), .second] [(.int r7), (.int r3)])) (T6.setTop (mkF m 27 #[.val (.long q0), .second, .val (.int p1), .val (.int ((p1 &&& (2147483647 : Int32)) % (64 : Int32))), .val (.long (((q0 &&& (9223372036854775807 : Int64)).toUInt64 >>> (((p1 &&& (2147483647 : Int32)) % (64 : Int32)) &&& 0x3f).toInt64.toUInt64).toInt64)), .second] [(.int r7), (.int r3)])) := Steps.refl _
    by_cases hc27 : r3 = r7
    · have K10 : Steps p.tables e below _ (T6.setTop (mkF m 35 #[.val (.long q0), .second, .val (.int p1), .val (.int ((p1 &&& (2147483647 : Int32)) % (64 : Int32))), .val (.long (((q0 &&& (9223372036854775807 : Int64)).toUInt64 >>> (((p1 &&& (2147483647 : Int32)) % (64 : Int32)) &&& 0x3f).toInt64.toUInt64).toInt64)), .second] [(.int (1 : Int32))])) := R9.trans (by
        show Steps p.tables e below (T6.setTop (mkF m 27 #[.val (.long q0), .second, .val (.int p1), .val (.int ((p1 &&& (2147483647 : Int32)) % (64 : Int32))), .val (.long (((q0 &&& (9223372036854775807 : Int64)).toUInt64 >>> (((p1 &&& (2147483647 : Int32)) % (64 : Int32)) &&& 0x3f).toInt64.toUInt64).toInt64)), .second] [(.int r7), (.int r3)])) _
        refine XS.icmpNo X6.here hx rfl (hb hby at_27) rfl (teq hc27).2 ?_
        show Steps p.tables e below (T6.setTop (mkF m 30 #[.val (.long q0), .second, .val (.int p1), .val (.int ((p1 &&& (2147483647 : Int32)) % (64 : Int32))), .val (.long (((q0 &&& (9223372036854775807 : Int64)).toUInt64 >>> (((p1 &&& (2147483647 : Int32)) % (64 : Int32)) &&& 0x3f).toInt64.toUInt64).toInt64)), .second] [])) _
        refine XS.iconst X6.here hx rfl (hb hby at_30) ?_
        show Steps p.tables e below (T6.setTop (mkF m 31 #[.val (.long q0), .second, .val (.int p1), .val (.int ((p1 &&& (2147483647 : Int32)) % (64 : Int32))), .val (.long (((q0 &&& (9223372036854775807 : Int64)).toUInt64 >>> (((p1 &&& (2147483647 : Int32)) % (64 : Int32)) &&& 0x3f).toInt64.toUInt64).toInt64)), .second] [(.int (1 : Int32))])) _
        refine XS.goto X6.here hx rfl (pc0 := 31) (pc' := 35) rfl (hb hby at_31) (by decide) (by decide) ?_
        show Steps p.tables e below (T6.setTop (mkF m 35 #[.val (.long q0), .second, .val (.int p1), .val (.int ((p1 &&& (2147483647 : Int32)) % (64 : Int32))), .val (.long (((q0 &&& (9223372036854775807 : Int64)).toUInt64 >>> (((p1 &&& (2147483647 : Int32)) % (64 : Int32)) &&& 0x3f).toInt64.toUInt64).toInt64)), .second] [(.int (1 : Int32))])) _
        exact Steps.refl _)
      exact ⟨(1 : Int32), (by rw [if_pos hc27]), K10⟩
    · have K11 : Steps p.tables e below _ (T6.setTop (mkF m 35 #[.val (.long q0), .second, .val (.int p1), .val (.int ((p1 &&& (2147483647 : Int32)) % (64 : Int32))), .val (.long (((q0 &&& (9223372036854775807 : Int64)).toUInt64 >>> (((p1 &&& (2147483647 : Int32)) % (64 : Int32)) &&& 0x3f).toInt64.toUInt64).toInt64)), .second] [(.int (0 : Int32))])) := R9.trans (by
        show Steps p.tables e below (T6.setTop (mkF m 27 #[.val (.long q0), .second, .val (.int p1), .val (.int ((p1 &&& (2147483647 : Int32)) % (64 : Int32))), .val (.long (((q0 &&& (9223372036854775807 : Int64)).toUInt64 >>> (((p1 &&& (2147483647 : Int32)) % (64 : Int32)) &&& 0x3f).toInt64.toUInt64).toInt64)), .second] [(.int r7), (.int r3)])) _
        refine XS.icmpYes X6.here hx rfl (pc0 := 27) (pc' := 34) rfl (hb hby at_27) rfl (feq hc27).2 (by decide) (by decide) ?_
        show Steps p.tables e below (T6.setTop (mkF m 34 #[.val (.long q0), .second, .val (.int p1), .val (.int ((p1 &&& (2147483647 : Int32)) % (64 : Int32))), .val (.long (((q0 &&& (9223372036854775807 : Int64)).toUInt64 >>> (((p1 &&& (2147483647 : Int32)) % (64 : Int32)) &&& 0x3f).toInt64.toUInt64).toInt64)), .second] [])) _
        refine XS.iconst X6.here hx rfl (hb hby at_34) ?_
        show Steps p.tables e below (T6.setTop (mkF m 35 #[.val (.long q0), .second, .val (.int p1), .val (.int ((p1 &&& (2147483647 : Int32)) % (64 : Int32))), .val (.long (((q0 &&& (9223372036854775807 : Int64)).toUInt64 >>> (((p1 &&& (2147483647 : Int32)) % (64 : Int32)) &&& 0x3f).toInt64.toUInt64).toInt64)), .second] [(.int (0 : Int32))])) _
        exact Steps.refl _)
      exact ⟨(0 : Int32), (by rw [if_neg hc27]), K11⟩
  have K12 := K8.trans S9
  have hone : (v9_0 &&& 1) = (1 : Int32) := own_law_0 q0 p1 r3 r7 v9_0 hr3 hr7 hv9_0
  obtain ⟨fs, hr, hrun, hended, hW, hsame⟩ := X6.leave (v := some (.int (v9_0 &&& 1))) (fun h => by rw [Bd.returns] at h; cases h)
  exact ⟨_, _, K12.trans (retN X6 hx (t := .boolean) Bd.returns (by simp) (hb hby at_35) hr), hrun, hended, _, _, rfl, ⟨by rw [hone], N6'⟩, ⟨_, rfl⟩, hW, hsame.mono (by decide) (by decide)⟩
set_option maxRecDepth 65536 in
set_option maxHeartbeats 40000000 in
theorem comes_1 {Post : Tables → Env → Array Value → State → Outcome → State → Prop} (hpost : ∀ tb e args s v u, (limb_1_1.after args s (.returned v) u = true ∧ limb_1_2.after args s (.returned v) u = true ∧ True) → FrameEnd s (.returned v) u (Jvm.fieldLocs frame_1_writes args s ++ Jvm.arrayLocs frame_1_arrays args s ++ Jvm.staticLocs frame_1_statics s) 0 0 → Post tb e args s (.returned v) u) :
    ArmFor flags0 classFile x code maxLocals ret World_1 tables_1 room_1 Calls_1 rest_1 Pre_1 Post := by
  intro l hfl _ _ p e ha hc hk s m args below hf hA hF happ hP
  obtain ⟨hcalls, hrest, hpre⟩ := hP
  obtain ⟨-, -, -, hnamed, -, -, -, hat⟩ := (Spec.applies_iff hf).mp happ
  obtain ⟨hg, hn⟩ := and_e (Cond.before_iff.mp (show (Jvm.Cond.and given_1 narrow_1).before args s = true from hpre))
  obtain ⟨g1, g2⟩ := and_e hg
  obtain ⟨g3, g4⟩ := and_e g2
  obtain ⟨w0, w1, rfl⟩ : ∃ w0 w1 : Value, args = #[w0, w1] := by
    have hs : args.size = 2 := by simpa [Cond.value, given_1] using g1
    obtain ⟨L⟩ := args
    match L, hs with
    | [w0, w1], _ => exact ⟨w0, w1, rfl⟩
  have hw := fun d (hd : d ∈ tables_1) => atoms_spec (ws := Jvm.Cond.code x code maxLocals ret :: tables_1) hat d (List.mem_cons_of_mem _ hd)
  obtain ⟨i0, ei0⟩ := isL_v g3
  obtain rfl : w0 = (.long i0) := Option.some.inj ei0
  obtain ⟨i1, ei1⟩ := is_v g4
  obtain rfl : w1 = (.int i1) := Option.some.inj ei1
  obtain ⟨n, o, h1, h2, h3, _, L, rfl, ⟨rfl, N⟩, hq⟩ := rm0 l s _ hw tables_1 i0 i1 s.heap s.heap.size (Nat.le_refl _) p e ha hc hk s m _ below hf ((Spec.applies_iff_loose hf).mp happ).1 ⟨rfl, State.Warmed39.refl s, rfl⟩ trivial
  refine ⟨n, _, h1, h2, h3, hpost _ _ _ _ _ _ ⟨Cond.after_iff.mpr rfl, Cond.after_iff.mpr (eq_i res_at (Term.int_eval (1)) rfl), trivial⟩ ⟨hq.1, hq.2.1, (hq.2.2.sift fun y hy => Or.inr (N y hy)).mono (by decide) (by decide)⟩⟩
theorem main_1_1 : Claimed_1_1 := comes_1 fun _ _ _ _ _ _ h hF => ⟨h.1, hF⟩
theorem main_1_2 : Claimed_1_2 := comes_1 fun _ _ _ _ _ _ h hF => ⟨h.2.1, hF⟩
end Jvm.Pilot.@@N@@
namespace Jvm.Pilot.@@N@@
open Jvm Jvm.ClassFile Sem Op Lib Jvm.Free Jvm.Stand Jvm.Pilot.@@N@@.Jvm.D
/-! MADE BY PROGRAM (witnessworld.py) out of the Statement's table words and the real class files: 9 classes; the members and pool entries that the words name. The judged class is class 1, her method 2. -/
namespace start1
open Jvm.ClassFile
def u (s : String) : CpInfo := .utf8 (stringToUtf16 s)
/-- a pool by its gaps: so many unusable entries, then the entry; so many at the end -/
def gap : Nat → List CpInfo → List CpInfo
  | 0, r => r
  | n + 1, r => .unusable :: gap n r
def poolList (es : List (Nat × CpInfo)) (last : Nat) : List CpInfo := es.foldr (fun e r => gap e.1 (e.2 :: r)) (gap last [])
def pool (es : List (Nat × CpInfo)) (last : Nat) : Array CpInfo := ⟨poolList es last⟩
def fileOf (pool : Array CpInfo) (this : Nat) (attrs : Array Attribute := #[]) (ms : Array MethodInfo := #[]) (fl : Nat := 33) (sup : Nat := 0) (ifs : Array Nat := #[]) (fds : Array FieldInfo := #[]) : ClassFile where
  minorVersion := 0
  majorVersion := 65
  constantPool := pool
  accessFlags := fl
  thisClass := this
  superClass := sup
  interfaces := ifs
  fields := fds
  methods := ms
  attributes := attrs
def plain (name : String) (sup : Option ClassId) : Class where
  name := name
  kind := .ordinary
  loader := none
  accessFlags := 33
  super := sup
  interfaces := #[]
  cf := none
  fields := #[]
  methods := #[]
  instanceTypes := #[]
  staticTypes := #[]
  resolved := #[]
  callSites := []
  init := .initialized
  statics := none
  mirror := none

def pool0 : Array CpInfo := pool [(5, u "<init>"), (0, u "()V"), (1, .class_ 10), (1, u "java/lang/Object")] 113

def k0m0 : Method := { name := "<init>", desc := "()V", sig := { parameters := [], returnType := none }, accessFlags := 1, code := none }
/-- java/lang/Object -/
def k0 : Class := { plain "java/lang/Object" none with
  accessFlags := 33
  interfaces := #[]
  cf := some (fileOf pool0 8 #[] #[{ accessFlags := 1, nameIndex := 5, descriptorIndex := 6, attributes := #[] }] 33 0 #[] #[])
  fields := #[]
  methods := #[k0m0]
  instanceTypes := #[]
  staticTypes := #[]
  resolved := Array.replicate 124 none
  statics := none }

def pool1 : Array CpInfo := pool [(2, .class_ 4), (1, u "java/lang/Object"), (0, u "<init>"), (0, u "()V"), (0, .long 128), (1, .long 16384), (1, .long 2097152), (1, .long 268435456), (1, .long 34359738368), (1, .long 4398046511104), (1, .long 562949953421312), (1, .long 72057594037927936), (1, .integer 2147483647), (2, .long 9223372036854775807), (1, .methodref 29 30), (0, .class_ 31), (0, .nameAndType 32 33), (0, u "com/example/windward/windward/storage/VarInts"), (0, u "length"), (0, u "(J)I"), (0, .methodref 35 36), (0, .class_ 37), (0, .nameAndType 38 33), (0, u "com/example/windward/windward/storage/VarIntsLengthPinLaw"), (0, u "expected"), (3, u "law"), (0, u "(JI)Z")] 2

def k1m0 : Method := { name := "<init>", desc := "()V", sig := { parameters := [], returnType := none }, accessFlags := 2, code := none }
def k1c1 : Code := { maxStack := 4, maxLocals := 2, code := method_2_code, exceptionTable := #[], attributes := #[] }
def k1m1 : Method := { name := "expected", desc := "(J)I", sig := { parameters := [.long], returnType := some .int }, accessFlags := 10, code := some k1c1 }
def k1c2 : Code := { maxStack := 4, maxLocals := 6, code := code, exceptionTable := #[], attributes := #[] }
def k1m2 : Method := { name := "law", desc := "(JI)Z", sig := { parameters := [.long, .int], returnType := some .boolean }, accessFlags := 9, code := some k1c2 }
/-- com/example/windward/windward/storage/VarIntsLengthPinLaw -/
def k1 : Class := { plain "com/example/windward/windward/storage/VarIntsLengthPinLaw" (some 0) with
  accessFlags := 49
  interfaces := #[]
  cf := some (fileOf pool1 35 #[] #[{ accessFlags := 2, nameIndex := 5, descriptorIndex := 6, attributes := #[] }, { accessFlags := 10, nameIndex := 38, descriptorIndex := 33, attributes := #[] }, { accessFlags := 9, nameIndex := 42, descriptorIndex := 43, attributes := #[] }] 49 2 #[] #[])
  fields := #[]
  methods := #[k1m0, k1m1, k1m2]
  instanceTypes := #[]
  staticTypes := #[]
  resolved := Array.replicate 46 none
  statics := none }

def pool2 : Array CpInfo := pool [(2, .class_ 4), (1, u "java/lang/Object"), (0, u "<init>"), (0, u "()V"), (0, .long 18446744073709551488), (11, .class_ 20), (0, u "com/example/windward/windward/storage/VarInts"), (15, u "LONGEST"), (0, u "I"), (10, u "length"), (0, u "(J)I")] 4

def k2m0 : Method := { name := "<init>", desc := "()V", sig := { parameters := [], returnType := none }, accessFlags := 2, code := none }
def k2c1 : Code := { maxStack := 4, maxLocals := 3, code := prog_28_method_4_code, exceptionTable := #[], attributes := #[] }
def k2m1 : Method := { name := "length", desc := "(J)I", sig := { parameters := [.long], returnType := some .int }, accessFlags := 9, code := some k2c1 }
/-- com/example/windward/windward/storage/VarInts -/
def k2 : Class := { plain "com/example/windward/windward/storage/VarInts" (some 0) with
  accessFlags := 49
  interfaces := #[]
  cf := some (fileOf pool2 19 #[] #[{ accessFlags := 2, nameIndex := 5, descriptorIndex := 6, attributes := #[] }, { accessFlags := 9, nameIndex := 48, descriptorIndex := 49, attributes := #[] }] 49 2 #[] #[{ accessFlags := 26, nameIndex := 36, descriptorIndex := 37, attributes := #[] }])
  fields := #[{ name := "LONGEST", type := .int, accessFlags := 26, slot := 0, constantValue := 0 }]
  methods := #[k2m0, k2m1]
  instanceTypes := #[]
  staticTypes := #[.int]
  resolved := Array.replicate 54 none
  statics := none }

def pool3 : Array CpInfo := pool [(1, u "java/lang/Cloneable"), (0, .class_ 1), (0, u "java/lang/Object"), (0, .class_ 3)] 3

/-- java/lang/Cloneable -/
def k3 : Class := { plain "java/lang/Cloneable" (some 0) with
  accessFlags := 1537
  interfaces := #[]
  cf := some (fileOf pool3 2 #[] #[] 1537 4 #[] #[])
  fields := #[]
  methods := #[]
  instanceTypes := #[]
  staticTypes := #[]
  resolved := Array.replicate 8 none
  statics := none }

def pool4 : Array CpInfo := pool [(1, u "java/io/Serializable"), (0, .class_ 1), (0, u "java/lang/Object"), (0, .class_ 3)] 3

/-- java/io/Serializable -/
def k4 : Class := { plain "java/io/Serializable" (some 0) with
  accessFlags := 1537
  interfaces := #[]
  cf := some (fileOf pool4 2 #[] #[] 1537 4 #[] #[])
  fields := #[]
  methods := #[]
  instanceTypes := #[]
  staticTypes := #[]
  resolved := Array.replicate 8 none
  statics := none }

/-- the primitive byte -/
def k5 : Class := { plain "byte" none with kind := .primitive 'B', accessFlags := 0x411 }
/-- [B -/
def k6 : Class := { plain "[B" (some 0) with kind := .array 5 .byte, interfaces := #[3, 4], accessFlags := 1041 }

/-- the primitive int -/
def k7 : Class := { plain "int" none with kind := .primitive 'I', accessFlags := 0x411 }
/-- [I -/
def k8 : Class := { plain "[I" (some 0) with kind := .array 7 .int, interfaces := #[3, 4], accessFlags := 1041 }

def heap : Heap := #[]
def classes : Array Class := #[k0, k1, k2, k3, k4, k5, k6, k7, k8]
def interned : List (Array UInt16 × Addr) := []
def slotsUsed : Nat := 0
def theMethod : MethodId := ⟨1, 2⟩
def args0 : Array Value := #[.long 5, .int 3]
def aboutOver (below : List Frame) : State where
  vm := { classes := classes, interned := interned.toArray }
  heap := heap
  slotsUsed := slotsUsed
  threads := #[{ frames := .invoking theMethod args0 :: below }]
def below0 : List Frame := [.native { method := ⟨0, 0⟩, args := #[] }]
def about1 : State := aboutOver below0
def p0 : Program := .bare "" "" ""
def e0 : Env := launch0.env 0 0 0
theorem w_frames : about1.frames = Frame.invoking theMethod args0 :: below0 := rfl
set_option maxRecDepth 65536 in
theorem w_args : argsFit about1.vm theMethod args0 = true := by decide +kernel
set_option maxRecDepth 65536 in
theorem w_heap : heapFits about1 = true := by decide +kernel
set_option maxRecDepth 65536 in
theorem w_runnable : about1.curStatus? = some .runnable := by decide +kernel
set_option maxRecDepth 65536 in
theorem w_alone : about1.alone = true := by decide +kernel
set_option maxRecDepth 65536 in
theorem w_named : about1.methodNamed? x = some theMethod := by decide +kernel
set_option maxRecDepth 65536 in
theorem w_hears : about1.hears theMethod below0 = true := by decide +kernel
set_option maxRecDepth 65536 in
theorem w_ripe : about1.ripe theMethod args0 below0 = true := by decide +kernel
theorem w_running : about1.status = .running := rfl
set_option maxRecDepth 65536 in
theorem w_room : about1.hasRoom e0.platform room_1 = true :=
  launch0.hasRoom_least _ room_1 (by decide +kernel) (by decide +kernel) (by decide +kernel) (by decide +kernel) (by decide +kernel) (by decide +kernel)
theorem allAtoms_all (ts : List Jvm.Cond) (a : Array Jvm.Value) (st : Jvm.State) : (allAtoms ts).before a st = ts.all (fun c => c.before a st) := by
  induction ts with
  | nil => rfl
  | cons c t ih =>
    show (Jvm.Cond.and c (allAtoms t)).before a st = _
    rw [Jvm.Cond.before_and, ih, List.all_cons]
def words1 : List Jvm.Cond := Jvm.Cond.code x code maxLocals ret :: tables_1
/-- a 'code' word, met by the world's own term for the bytes: nothing is compared byte by byte -/
theorem code_word {y : MethodName} {bytes : ByteArray} {mx : Nat} {rt : Option FieldType} {a : Array Value} {s : State} {m : MethodId} {meth : Method} {c : Code} (h1 : s.methodNamed? y = some m) (h2 : s.vm.method? m = some meth) (h3 : meth.code = some c) (h4 : c.code = bytes)
    (h5 : (c.maxLocals == mx && c.exceptionTable.isEmpty && decide (c.maxStack ≤ mostOperands) && decide (meth.sig.returnType = rt) && !meth.locks && decide (parseMethodDescriptor y.desc = some meth.sig)) = true) : (Jvm.Cond.code y bytes mx rt).before a s = true := by
  simp only [Bool.and_eq_true, beq_iff_eq, Bool.not_eq_true', decide_eq_true_eq] at h5
  obtain ⟨⟨⟨⟨⟨g1, g2⟩, g3⟩, g4⟩, g5⟩, g6⟩ := h5
  simp [Cond.before, Cond.holds, Cond.value, h1, h2, h3, h4, g1, g2, g3, g4, g5, g6]
def isCode : Jvm.Cond → Bool
  | .code _ _ _ _ => true
  | _ => false
theorem all_split {L : List Jvm.Cond} {P : Jvm.Cond → Bool} (h1 : L.all (fun c => isCode c || P c) = true) (h2 : ∀ c ∈ L.filter isCode, P c = true) : L.all P = true := by
  refine List.all_eq_true.mpr fun c hc => ?_
  have h := List.all_eq_true.mp h1 c hc
  rcases Bool.eq_false_or_eq_true (isCode c) with hi | hi
  · exact h2 c (List.mem_filter.mpr ⟨hc, hi⟩)
  · simpa [hi] using h
set_option maxRecDepth 65536 in
theorem w_c0 : (Jvm.Cond.code x code maxLocals ret).before args0 about1 = true := code_word (m := ⟨1, 2⟩) (meth := k1m2) (c := k1c2) (by decide +kernel) rfl rfl rfl (by decide +kernel)
set_option maxRecDepth 65536 in
theorem w_c1 : (Jvm.Cond.code ({ cls := "com/example/windward/windward/storage/VarInts", name := "length", desc := "(J)I" } : Jvm.MethodName) prog_28_method_4_code (3 : Nat) (Option.some Jvm.ClassFile.FieldType.int)).before args0 about1 = true := code_word (m := ⟨2, 1⟩) (meth := k2m1) (c := k2c1) (by decide +kernel) rfl rfl rfl (by decide +kernel)
set_option maxRecDepth 65536 in
theorem w_c2 : (Jvm.Cond.code ({ cls := "com/example/windward/windward/storage/VarIntsLengthPinLaw", name := "expected", desc := "(J)I" } : Jvm.MethodName) method_2_code (2 : Nat) (Option.some Jvm.ClassFile.FieldType.int)).before args0 about1 = true := code_word (m := ⟨1, 1⟩) (meth := k1m1) (c := k1c1) (by decide +kernel) rfl rfl rfl (by decide +kernel)
def codes1 : List Jvm.Cond := [Jvm.Cond.code x code maxLocals ret, Jvm.Cond.code ({ cls := "com/example/windward/windward/storage/VarInts", name := "length", desc := "(J)I" } : Jvm.MethodName) prog_28_method_4_code (3 : Nat) (Option.some Jvm.ClassFile.FieldType.int), Jvm.Cond.code ({ cls := "com/example/windward/windward/storage/VarIntsLengthPinLaw", name := "expected", desc := "(J)I" } : Jvm.MethodName) method_2_code (2 : Nat) (Option.some Jvm.ClassFile.FieldType.int)]
set_option maxRecDepth 65536 in
theorem codes_eq : words1.filter isCode = codes1 := rfl
theorem w_codes : ∀ c ∈ words1.filter isCode, c.before args0 about1 = true := by
  rw [codes_eq]
  intro c hc
  simp only [codes1, List.mem_cons, List.not_mem_nil, or_false] at hc
  rcases hc with rfl | rfl | rfl
  · exact w_c0
  · exact w_c1
  · exact w_c2
set_option maxRecDepth 65536 in
theorem w_t1 : words1.all (fun c => isCode c || c.before args0 about1) = true := by decide +kernel
theorem w_tables : (allAtoms (Jvm.Cond.code x code maxLocals ret :: tables_1)).before args0 about1 = true := by
  rw [allAtoms_all]
  show words1.all (fun c => c.before args0 about1) = true
  refine all_split ?_ w_codes
  rw [w_t1]
set_option maxRecDepth 65536 in
theorem w_case : (Jvm.Cond.and given_1 narrow_1).before args0 about1 = true := by decide +kernel
theorem w_applies : (headSpec (Jvm.Cond.code x code maxLocals ret :: tables_1) room_1).applies x e0.platform about1 = true :=
  (Spec.applies_iff w_frames).mpr ⟨w_running, w_runnable, w_alone, w_named, w_hears, w_ripe, w_room, w_tables⟩
theorem atStart : AtStart classFile x code maxLocals ret World_1 tables_1 room_1 Calls_1 rest_1 Pre_1 launch0 p0 e0 about1 theMethod args0 below0 :=
  ⟨lists_1, trivial, launch0.admits_env _ _ _, launch0.least_env, fairChoices_fair.cas, fairChoices_fair.clock, w_frames, w_args, w_heap, w_applies, trivial, trivial, w_case⟩
end start1
theorem witness_1 : WitnessClaimed_1 := ⟨start1.p0, start1.e0, start1.about1, start1.theMethod, start1.args0, start1.below0, start1.atStart⟩
end Jvm.Pilot.@@N@@
