import JvmDerived
import JvmDerived.Pilot.@@N@@Statement
import JvmDerived.Pilot.@@N@@Code
set_option linter.unusedVariables false
set_option linter.unusedSimpArgs false
namespace Jvm.Pilot.@@N@@
open Jvm Jvm.ClassFile Sem Op Lib Jvm.Free Jvm.Stand Jvm.LawKit Jvm.RoadKit Bundle Jvm.Pilot.@@N@@.Jvm.D
section OwnArr
variable {p : Program} {l : Launch} {e : Env} {R : Room} {s : State} {m : MethodId} {args : Array Value} {below : List Frame} {meth : Method} {c : Code} {T : State} {locs : List Loc} {cells slots : Nat} {Z : State} {a0 : Array Value} {h : Heap} {a : Addr} {k : ClassId} {z : Int32} {vs : List Value} {dv : Value}
theorem own_ldB (X : Stand p l e R s m args below meth c T locs cells slots) (hx : p.tables.exec = Jvm.exec) (hZ : Z.Warmed39 s.vm) (eT : T.heap = h) (F : Arv Z h a k .byte z vs dv) {j : Int32} (q : ¬ j < 0 ∧ j < z) {v : Value} (u : vs.getD j.toNatClampNeg dv = v) {g : JFrame} (hg : g.method = m) {rest : List Value} (hs : g.stack = .int j :: .ref a :: rest) (hd : decode c.code g.pc = .ok (.baload, 1)) :
    Steps p.tables e below (T.setTop g) (T.setTop { g with pc := g.pc + 1, stack := v :: rest }) := by
  obtain ⟨cl, A, q1, S, N, H, G⟩ := F
  have hin := inb_of S q
  exact X.baloadBytes hx (by rw [eT]; exact A.1) (State.isArrayOf_alike hZ.alike A.2.1) A.2.2 hin (H.at hin u) hg hs hd _ (Steps.refl _)
theorem own_ldI (X : Stand p l e R s m args below meth c T locs cells slots) (hx : p.tables.exec = Jvm.exec) (hZ : Z.Warmed39 s.vm) (eT : T.heap = h) (F : Arv Z h a k .int z vs dv) {j : Int32} (q : ¬ j < 0 ∧ j < z) {v : Value} (u : vs.getD j.toNatClampNeg dv = v) {g : JFrame} (hg : g.method = m) {rest : List Value} (hs : g.stack = .int j :: .ref a :: rest) (hd : decode c.code g.pc = .ok (.iaload, 1)) :
    Steps p.tables e below (T.setTop g) (T.setTop { g with pc := g.pc + 1, stack := v :: rest }) := by
  obtain ⟨cl, A, q1, S, N, H, G⟩ := F
  have hin := inb_of S q
  exact X.iaload hx (by rw [eT]; exact A.1) (State.isArrayOf_alike hZ.alike A.2.1) A.2.2 hin (H.at hin u) hg hs hd _ (Steps.refl _)
theorem own_ldJ (X : Stand p l e R s m args below meth c T locs cells slots) (hx : p.tables.exec = Jvm.exec) (hZ : Z.Warmed39 s.vm) (eT : T.heap = h) (F : Arv Z h a k .long z vs dv) {j : Int32} (q : ¬ j < 0 ∧ j < z) {v : Value} (u : vs.getD j.toNatClampNeg dv = v) {g : JFrame} (hg : g.method = m) {rest : List Value} (hs : g.stack = .int j :: .ref a :: rest) (hd : decode c.code g.pc = .ok (.laload, 1)) :
    Steps p.tables e below (T.setTop g) (T.setTop { g with pc := g.pc + 1, stack := v :: rest }) := by
  obtain ⟨cl, A, q1, S, N, H, G⟩ := F
  have hin := inb_of S q
  exact X.laload hx (by rw [eT]; exact A.1) (State.isArrayOf_alike hZ.alike A.2.1) A.2.2 hin (H.at hin u) hg hs hd _ (Steps.refl _)
theorem own_len {ty : FieldType} (X : Stand p l e R s m args below meth c T locs cells slots) (hx : p.tables.exec = Jvm.exec) (hZ : Z.Warmed39 s.vm) (eT : T.heap = h) (F : Arv Z h a k ty z vs dv) {g : JFrame} (hg : g.method = m) {rest : List Value} (hs : g.stack = .ref a :: rest) (hd : decode c.code g.pc = .ok (.arraylength, 1)) :
    Steps p.tables e below (T.setTop g) (T.setTop { g with pc := g.pc + 1, stack := .int z :: rest }) := by
  obtain ⟨cl, A, q1, S, N, H, G⟩ := F
  have q := X.arraylength hx (by rw [eT]; exact A.1) (State.isArrayOf_alike hZ.alike A.2.1) hg hs hd _ (Steps.refl _)
  rw [len_of S N] at q
  exact q
theorem own_stB (X : Stand p l e R s m args below meth c T locs cells slots) (hx : p.tables.exec = Jvm.exec) (hZ : Z.Warmed39 s.vm) (eT : T.heap = h) (F : Arv Z h a k .byte z vs dv) {j x : Int32} (q : ¬ j < 0 ∧ j < z) (i : Nat) (hj : j.toNatClampNeg = i) (hi : i < vs.length) {g : JFrame} (hg : g.method = m) {rest : List Value} (hs : g.stack = .int x :: .int j :: .ref a :: rest) (hd : decode c.code g.pc = .ok (.bastore, 1)) :
    ∃ T' h', Stand p l e R s m args below meth c T' (locs ++ [⟨a, j.toNatClampNeg⟩]) cells slots ∧ T'.heap = h' ∧ Wr h h' a j.toNatClampNeg (.int (x.toInt8.toInt32)) ∧ Arv Z h' a k .byte z (vs.set i (.int (x.toInt8.toInt32))) dv ∧ Steps p.tables e below (T.setTop g) (T'.setTop { g with pc := g.pc + 1, stack := rest }) := by
  obtain ⟨cl, A, q1, S, N, H, G⟩ := F
  have hin := inb_of S q
  obtain ⟨T', h', X', e', W, st⟩ := stB X hx hZ eT A hin hg hs hd
  exact ⟨T', h', X', e', W, Arv.set A q1 S N H G (fits_nar_byte _) W i hj hi, st _ (Steps.refl _)⟩
theorem own_stI (X : Stand p l e R s m args below meth c T locs cells slots) (hx : p.tables.exec = Jvm.exec) (hZ : Z.Warmed39 s.vm) (eT : T.heap = h) (F : Arv Z h a k .int z vs dv) {j x : Int32} (q : ¬ j < 0 ∧ j < z) (i : Nat) (hj : j.toNatClampNeg = i) (hi : i < vs.length) {g : JFrame} (hg : g.method = m) {rest : List Value} (hs : g.stack = .int x :: .int j :: .ref a :: rest) (hd : decode c.code g.pc = .ok (.iastore, 1)) :
    ∃ T' h', Stand p l e R s m args below meth c T' (locs ++ [⟨a, j.toNatClampNeg⟩]) cells slots ∧ T'.heap = h' ∧ Wr h h' a j.toNatClampNeg (.int x) ∧ Arv Z h' a k .int z (vs.set i (.int x)) dv ∧ Steps p.tables e below (T.setTop g) (T'.setTop { g with pc := g.pc + 1, stack := rest }) := by
  obtain ⟨cl, A, q1, S, N, H, G⟩ := F
  have hin := inb_of S q
  obtain ⟨T', h', X', e', W, st⟩ := stI X hx hZ eT A hin hg hs hd
  exact ⟨T', h', X', e', W, Arv.set A q1 S N H G rfl W i hj hi, st _ (Steps.refl _)⟩
theorem own_stJ (X : Stand p l e R s m args below meth c T locs cells slots) (hx : p.tables.exec = Jvm.exec) (hZ : Z.Warmed39 s.vm) (eT : T.heap = h) (F : Arv Z h a k .long z vs dv) {j : Int32} {x : Int64} (q : ¬ j < 0 ∧ j < z) (i : Nat) (hj : j.toNatClampNeg = i) (hi : i < vs.length) {g : JFrame} (hg : g.method = m) {rest : List Value} (hs : g.stack = .long x :: .int j :: .ref a :: rest) (hd : decode c.code g.pc = .ok (.lastore, 1)) :
    ∃ T' h', Stand p l e R s m args below meth c T' (locs ++ [⟨a, j.toNatClampNeg⟩]) cells slots ∧ T'.heap = h' ∧ Wr h h' a j.toNatClampNeg (.long x) ∧ Arv Z h' a k .long z (vs.set i (.long x)) dv ∧ Steps p.tables e below (T.setTop g) (T'.setTop { g with pc := g.pc + 1, stack := rest }) := by
  obtain ⟨cl, A, q1, S, N, H, G⟩ := F
  have hin := inb_of S q
  obtain ⟨T', h', X', e', W, st⟩ := stJ X hx hZ eT A hin hg hs hd
  exact ⟨T', h', X', e', W, Arv.set A q1 S N H G rfl W i hj hi, st _ (Steps.refl _)⟩
theorem own_newB (X : Stand p l e R s m args below meth c T locs cells slots) (hx : p.tables.exec = Jvm.exec) (hZ : Z.Warmed39 s.vm) (w : (Jvm.Cond.arrayClass .byte).before a0 Z = true) (eT : T.heap = h) {g : JFrame} (hg : g.method = m) (hd : decode c.code g.pc = .ok (.newarray .byte, 2)) {n : Int32} {rest : List Value} (hs : g.stack = .int n :: rest)
    (hn : ¬ n < 0) (N : Nat) (hcap : n.toNatClampNeg ≤ N) (hb : N * 8 ≤ 536870912) (hc : cells + 1 ≤ R.cells) (hl : slots + N ≤ R.slots) :
    ∃ T' h' k x, Stand p l e R s m args below meth c T' locs (cells + 1) (slots + N) ∧ T'.heap = h' ∧ Ext h h' ∧ x = h.size ∧ Arv Z h' x k .byte n (List.replicate N (.int (0 : Int32))) (.int (0 : Int32)) ∧ Exa Z h' x "[B" ∧ Steps p.tables e below (T.setTop g) (T'.setTop { g with pc := g.pc + 2, stack := .ref x :: rest }) := by
  obtain ⟨T', h', k, X', e', E, A, Ex, st⟩ := newPE (aty := .byte) X hx hZ w eT hg hd hs hn hcap hb hc hl (ad := "[B") (by decide)
  exact ⟨T', h', k, _, X', e', E, rfl, (Arv.new A hn).pad (pad_rep [] _ N), Ex, st _ (Steps.refl _)⟩
theorem own_newI (X : Stand p l e R s m args below meth c T locs cells slots) (hx : p.tables.exec = Jvm.exec) (hZ : Z.Warmed39 s.vm) (w : (Jvm.Cond.arrayClass .int).before a0 Z = true) (eT : T.heap = h) {g : JFrame} (hg : g.method = m) (hd : decode c.code g.pc = .ok (.newarray .int, 2)) {n : Int32} {rest : List Value} (hs : g.stack = .int n :: rest)
    (hn : ¬ n < 0) (N : Nat) (hcap : n.toNatClampNeg ≤ N) (hb : N * 8 ≤ 536870912) (hc : cells + 1 ≤ R.cells) (hl : slots + N ≤ R.slots) :
    ∃ T' h' k x, Stand p l e R s m args below meth c T' locs (cells + 1) (slots + N) ∧ T'.heap = h' ∧ Ext h h' ∧ x = h.size ∧ Arv Z h' x k .int n (List.replicate N (.int (0 : Int32))) (.int (0 : Int32)) ∧ Exa Z h' x "[I" ∧ Steps p.tables e below (T.setTop g) (T'.setTop { g with pc := g.pc + 2, stack := .ref x :: rest }) := by
  obtain ⟨T', h', k, X', e', E, A, Ex, st⟩ := newPE (aty := .int) X hx hZ w eT hg hd hs hn hcap hb hc hl (ad := "[I") (by decide)
  exact ⟨T', h', k, _, X', e', E, rfl, (Arv.new A hn).pad (pad_rep [] _ N), Ex, st _ (Steps.refl _)⟩
theorem own_newJ (X : Stand p l e R s m args below meth c T locs cells slots) (hx : p.tables.exec = Jvm.exec) (hZ : Z.Warmed39 s.vm) (w : (Jvm.Cond.arrayClass .long).before a0 Z = true) (eT : T.heap = h) {g : JFrame} (hg : g.method = m) (hd : decode c.code g.pc = .ok (.newarray .long, 2)) {n : Int32} {rest : List Value} (hs : g.stack = .int n :: rest)
    (hn : ¬ n < 0) (N : Nat) (hcap : n.toNatClampNeg ≤ N) (hb : N * 8 ≤ 536870912) (hc : cells + 1 ≤ R.cells) (hl : slots + N ≤ R.slots) :
    ∃ T' h' k x, Stand p l e R s m args below meth c T' locs (cells + 1) (slots + N) ∧ T'.heap = h' ∧ Ext h h' ∧ x = h.size ∧ Arv Z h' x k .long n (List.replicate N (.long (0 : Int64))) (.long (0 : Int64)) ∧ Exa Z h' x "[J" ∧ Steps p.tables e below (T.setTop g) (T'.setTop { g with pc := g.pc + 2, stack := .ref x :: rest }) := by
  obtain ⟨T', h', k, X', e', E, A, Ex, st⟩ := newPE (aty := .long) X hx hZ w eT hg hd hs hn hcap hb hc hl (ad := "[J") (by decide)
  exact ⟨T', h', k, _, X', e', E, rfl, (Arv.new A hn).pad (pad_rep [] _ N), Ex, st _ (Steps.refl _)⟩
end OwnArr
def own_cp (N z : Nat) (vs : List Value) (d : Value) : List Value := (List.replicate N d).take 0 ++ ((List.range z).map fun jx => vs.getD (0 + jx) d) ++ (List.replicate N d).drop (0 + z)
theorem own_cp_len (N z : Nat) (vs : List Value) (d : Value) (h : z ≤ N) : (own_cp N z vs d).length = N := by simp [own_cp]; omega
theorem own_and3 (p : Int32) : (p &&& (3 : Int32)) = (0 : Int32) ∨ (p &&& (3 : Int32)) = (1 : Int32) ∨ (p &&& (3 : Int32)) = (2 : Int32) ∨ (p &&& (3 : Int32)) = (3 : Int32) := by
  have h := Jvm.RoadKit.c_mask p (3 : Int32) 2 (by decide) (by decide)
  have e : ∀ z : Int32, (p &&& (3 : Int32)).toInt = z.toInt → (p &&& (3 : Int32)) = z := fun z q => Int32.toInt_inj.mp q
  have h' : (p &&& (3 : Int32)).toInt = 0 ∨ (p &&& (3 : Int32)).toInt = 1 ∨ (p &&& (3 : Int32)).toInt = 2 ∨ (p &&& (3 : Int32)).toInt = 3 := by omega
  rcases h' with h' | h' | h' | h'
  · exact Or.inl (e _ h')
  · exact Or.inr (Or.inl (e _ h'))
  · exact Or.inr (Or.inr (Or.inl (e _ h')))
  · exact Or.inr (Or.inr (Or.inr (e _ h')))
theorem own_b01 {c : Prop} [Decidable c] {v : Int32} (h : (if c then (0 : Int32) else (1 : Int32)) = v) : v = (0 : Int32) ∨ v = (1 : Int32) := by
  by_cases q : c
  · rw [if_pos q] at h; exact Or.inl h.symm
  · rw [if_neg q] at h; exact Or.inr h.symm
theorem own_bitT {f t : Int32} (hf : f = (0 : Int32) ∨ f = (1 : Int32)) (ht : t = (0 : Int32) ∨ t = (1 : Int32)) : ((if (((((if f = (0 : Int32) then (0 : Int32) else (1 : Int32)) ||| (if t = (0 : Int32) then (0 : Int32) else (2 : Int32))).toInt8.toInt32).toInt8.toInt32) &&& (2 : Int32)) = (0 : Int32) then (0 : Int32) else (1 : Int32)) &&& 1) = t := by
  rcases hf with rfl | rfl <;> rcases ht with rfl | rfl <;> decide
theorem own_bitF {f t : Int32} (hf : f = (0 : Int32) ∨ f = (1 : Int32)) (ht : t = (0 : Int32) ∨ t = (1 : Int32)) : ((if (((((if f = (0 : Int32) then (0 : Int32) else (1 : Int32)) ||| (if t = (0 : Int32) then (0 : Int32) else (2 : Int32))).toInt8.toInt32).toInt8.toInt32) &&& (1 : Int32)) = (0 : Int32) then (0 : Int32) else (1 : Int32)) &&& 1) = f := by
  rcases hf with rfl | rfl <;> rcases ht with rfl | rfl <;> decide
theorem d4_0 : decode jdk_29_method_65_code 0 = .ok (.iload_n 0, 1) := by decide +kernel
theorem d4_1 : decode jdk_29_method_65_code 1 = .ok (.iload_n 1, 1) := by decide +kernel
theorem d4_2 : decode jdk_29_method_65_code 2 = .ok (.if_icmp .lt 7, 3) := by decide +kernel
theorem d4_9 : decode jdk_29_method_65_code 9 = .ok (.iload_n 1, 1) := by decide +kernel
theorem d4_5 : decode jdk_29_method_65_code 5 = .ok (.iload_n 0, 1) := by decide +kernel
theorem d4_6 : decode jdk_29_method_65_code 6 = .ok (.goto 4, 3) := by decide +kernel
def Q_rm4 (Z : State) (p0 : Int32) (p1 : Int32) (h0 : Heap) (n0 : Nat) (v : Option Value) (h : Heap) (L : List Loc) : Prop := v = some (.int (if p0 < p1 then p1 else p0)) ∧ Fr n0 L ∧ h = h0
theorem ef_4 (m : MethodId) (x0 : Int32) (x1 : Int32) : entryFrame m #[(.int x0), (.int x1)] 2 = mkF m 0 #[.val (.int x0), .val (.int x1)] [] := by first | (simp [entryFrame, mkF, argsToLocals, Value.category]; done) | rfl
theorem d4_10 : decode jdk_29_method_65_code 10 = .ok (.ireturn, 1) := by decide +kernel
set_option maxRecDepth 65536 in
set_option maxHeartbeats 40000000 in
theorem rm4 (l : Launch) (Z : State) (a0 : Array Value) (hw : ∀ d ∈ tables_1, d.before a0 Z = true) (ws : List Jvm.Cond) (p0 : Int32) (p1 : Int32) (h0 : Heap) (n0 : Nat) (Z0 : n0 ≤ h0.size) :
    MetFree l (⟨"java/lang/Math", "max", "(II)I"⟩ : MethodName) (head1 (Jvm.Cond.code (⟨"java/lang/Math", "max", "(II)I"⟩ : MethodName) jdk_29_method_65_code 2 (some .int) :: ws) ({ frames := 0, cells := 0, slots := 0, locals := 0 } : Room)) (fun a U => a = #[(.int p0), (.int p1)] ∧ Z.Warmed39 U.vm ∧ U.heap = h0) (fun _ _ _ _ _ => True) (fun _ U o U' => ∃ v L, o = .returned v ∧ Q_rm4 Z p0 p1 h0 n0 v U'.heap L ∧ FrameEnd U o U' L ({ frames := 0, cells := 0, slots := 0, locals := 0 } : Room).cells ({ frames := 0, cells := 0, slots := 0, locals := 0 } : Room).slots) := by
  refine MetFree.of_bodySF (Jvm.Free.JP.mathPlain rfl (by decide +kernel)) hisR ?_
  intro p e s m args below meth c s₁ Bd hml0 hP hK
  obtain ⟨rfl, hZ, hh⟩ := hP
  have hx := Bd.exec
  have hby := Bd.bytes
  have hml : c.maxLocals = 2 := hml0
  have hown : s.vm.findClass "java/lang/Math" = some m.cls := findClass_of_methodNamed Bd.named
  have hnm := (name_of_methodNamed Bd.named Bd.method).1
  have X0 : Stand p l e ({ frames := 0, cells := 0, slots := 0, locals := 0 } : Room) s m #[(.int p0), (.int p1)] below meth c s₁ [] 0 0 := Stand.of_body Bd
  have e0 : s₁.heap = h0 := by rw [← hh, Bd.state]; rfl
  have N0 := Fr.nil n0
  have Kp0 : Keep h0 h0 [] := Keep.refl _ _
  have K0 : Steps p.tables e below (s₁.setTop (entryFrame m #[(.int p0), (.int p1)] 2)) (s₁.setTop (mkF m 0 #[.val (.int p0), .val (.int p1)] [])) := castTop (ef_4 m p0 p1) (Steps.refl _)
  have K1 : Steps p.tables e below _ (s₁.setTop (mkF m 2 #[.val (.int p0), .val (.int p1)] [(.int p1), (.int p0)])) := K0.trans (by
    show Steps p.tables e below (s₁.setTop (mkF m 0 #[.val (.int p0), .val (.int p1)] [])) _
    refine XS.iloadN X0.here hx rfl (hb hby d4_0) rfl ?_
    show Steps p.tables e below (s₁.setTop (mkF m 1 #[.val (.int p0), .val (.int p1)] [(.int p0)])) _
    refine XS.iloadN X0.here hx rfl (hb hby d4_1) rfl ?_
    show Steps p.tables e below (s₁.setTop (mkF m 2 #[.val (.int p0), .val (.int p1)] [(.int p1), (.int p0)])) _
    exact Steps.refl _)
  obtain ⟨v2_0, hv2_0, S2⟩ : ∃ (v2_0 : Int32), (if p0 < p1 then p1 else p0) = v2_0 ∧ Steps p.tables e below (s₁.setTop (mkF m 2 #[.val (.int p0), .val (.int p1)] [(.int p1), (.int p0)])) (s₁.setTop (mkF m 10 #[.val (.int p0), .val (.int p1)] [(.int v2_0)])) := by
    have R2 : Steps p.tables e below (s₁.setTop (mkF m 2 #[.val (.int p0), .val (.int p1)] [(.int p1), (.int p0)])) (s₁.setTop (mkF m 2 #[.val (.int p0), .val (.int p1)] [(.int p1), (.int p0)])) := Steps.refl _
    by_cases hc2 : p0 < p1
    · have K3 : Steps p.tables e below _ (s₁.setTop (mkF m 10 #[.val (.int p0), .val (.int p1)] [(.int p1)])) := R2.trans (by
        show Steps p.tables e below (s₁.setTop (mkF m 2 #[.val (.int p0), .val (.int p1)] [(.int p1), (.int p0)])) _
        refine XS.icmpYes X0.here hx rfl (pc0 := 2) (pc' := 9) rfl (hb hby d4_2) rfl (tlt hc2).1 (by decide) (by decide) ?_
        show Steps p.tables e below (s₁.setTop (mkF m 9 #[.val (.int p0), .val (.int p1)] [])) _
        refine XS.iloadN X0.here hx rfl (hb hby d4_9) rfl ?_
        show Steps p.tables e below (s₁.setTop (mkF m 10 #[.val (.int p0), .val (.int p1)] [(.int p1)])) _
        exact Steps.refl _)
      exact ⟨p1, (by rw [if_pos hc2]), K3⟩
    · have K4 : Steps p.tables e below _ (s₁.setTop (mkF m 10 #[.val (.int p0), .val (.int p1)] [(.int p0)])) := R2.trans (by
        show Steps p.tables e below (s₁.setTop (mkF m 2 #[.val (.int p0), .val (.int p1)] [(.int p1), (.int p0)])) _
        refine XS.icmpNo X0.here hx rfl (hb hby d4_2) rfl (flt hc2).1 ?_
        show Steps p.tables e below (s₁.setTop (mkF m 5 #[.val (.int p0), .val (.int p1)] [])) _
        refine XS.iloadN X0.here hx rfl (hb hby d4_5) rfl ?_
        show Steps p.tables e below (s₁.setTop (mkF m 6 #[.val (.int p0), .val (.int p1)] [(.int p0)])) _
        refine XS.goto X0.here hx rfl (pc0 := 6) (pc' := 10) rfl (hb hby d4_6) (by decide) (by decide) ?_
        show Steps p.tables e below (s₁.setTop (mkF m 10 #[.val (.int p0), .val (.int p1)] [(.int p0)])) _
        exact Steps.refl _)
      exact ⟨p0, (by rw [if_neg hc2]), K4⟩
  have K5 := K1.trans S2
  subst hv2_0
  obtain ⟨fs, hr, hrun, hended, hW, hsame⟩ := X0.leave (v := some (.int (if p0 < p1 then p1 else p0))) (fun h => by rw [Bd.returns] at h; cases h)
  refine ⟨_, _, K5.trans (retOut X0 hx Bd.returns rfl (Or.inl ⟨rfl, Or.inl rfl, _, rfl⟩) (hb hby d4_10) hr), hrun, hended, _, _, rfl, ?_, ⟨_, rfl⟩, hW, hsame.mono (by decide) (by first | decide | omega)⟩
  show Q_rm4 Z p0 p1 h0 n0 _ s₁.heap _
  rw [e0]
  exact ⟨rfl, N0, rfl⟩
theorem d6_0 : decode jdk_29_method_69_code 0 = .ok (.iload_n 0, 1) := by decide +kernel
theorem d6_1 : decode jdk_29_method_69_code 1 = .ok (.iload_n 1, 1) := by decide +kernel
theorem d6_2 : decode jdk_29_method_69_code 2 = .ok (.if_icmp .gt 7, 3) := by decide +kernel
theorem d6_9 : decode jdk_29_method_69_code 9 = .ok (.iload_n 1, 1) := by decide +kernel
theorem d6_5 : decode jdk_29_method_69_code 5 = .ok (.iload_n 0, 1) := by decide +kernel
theorem d6_6 : decode jdk_29_method_69_code 6 = .ok (.goto 4, 3) := by decide +kernel
def Q_rm6 (Z : State) (p0 : Int32) (p1 : Int32) (h0 : Heap) (n0 : Nat) (v : Option Value) (h : Heap) (L : List Loc) : Prop := v = some (.int (if p1 < p0 then p1 else p0)) ∧ Fr n0 L ∧ h = h0
theorem ef_6 (m : MethodId) (x0 : Int32) (x1 : Int32) : entryFrame m #[(.int x0), (.int x1)] 2 = mkF m 0 #[.val (.int x0), .val (.int x1)] [] := by first | (simp [entryFrame, mkF, argsToLocals, Value.category]; done) | rfl
theorem d6_10 : decode jdk_29_method_69_code 10 = .ok (.ireturn, 1) := by decide +kernel
set_option maxRecDepth 65536 in
set_option maxHeartbeats 40000000 in
theorem rm6 (l : Launch) (Z : State) (a0 : Array Value) (hw : ∀ d ∈ tables_1, d.before a0 Z = true) (ws : List Jvm.Cond) (p0 : Int32) (p1 : Int32) (h0 : Heap) (n0 : Nat) (Z0 : n0 ≤ h0.size) :
    MetFree l (⟨"java/lang/Math", "min", "(II)I"⟩ : MethodName) (head1 (Jvm.Cond.code (⟨"java/lang/Math", "min", "(II)I"⟩ : MethodName) jdk_29_method_69_code 2 (some .int) :: ws) ({ frames := 0, cells := 0, slots := 0, locals := 0 } : Room)) (fun a U => a = #[(.int p0), (.int p1)] ∧ Z.Warmed39 U.vm ∧ U.heap = h0) (fun _ _ _ _ _ => True) (fun _ U o U' => ∃ v L, o = .returned v ∧ Q_rm6 Z p0 p1 h0 n0 v U'.heap L ∧ FrameEnd U o U' L ({ frames := 0, cells := 0, slots := 0, locals := 0 } : Room).cells ({ frames := 0, cells := 0, slots := 0, locals := 0 } : Room).slots) := by
  refine MetFree.of_bodySF (Jvm.Free.JP.mathPlain rfl (by decide +kernel)) hisR ?_
  intro p e s m args below meth c s₁ Bd hml0 hP hK
  obtain ⟨rfl, hZ, hh⟩ := hP
  have hx := Bd.exec
  have hby := Bd.bytes
  have hml : c.maxLocals = 2 := hml0
  have hown : s.vm.findClass "java/lang/Math" = some m.cls := findClass_of_methodNamed Bd.named
  have hnm := (name_of_methodNamed Bd.named Bd.method).1
  have X0 : Stand p l e ({ frames := 0, cells := 0, slots := 0, locals := 0 } : Room) s m #[(.int p0), (.int p1)] below meth c s₁ [] 0 0 := Stand.of_body Bd
  have e0 : s₁.heap = h0 := by rw [← hh, Bd.state]; rfl
  have N0 := Fr.nil n0
  have Kp0 : Keep h0 h0 [] := Keep.refl _ _
  have K0 : Steps p.tables e below (s₁.setTop (entryFrame m #[(.int p0), (.int p1)] 2)) (s₁.setTop (mkF m 0 #[.val (.int p0), .val (.int p1)] [])) := castTop (ef_6 m p0 p1) (Steps.refl _)
  have K1 : Steps p.tables e below _ (s₁.setTop (mkF m 2 #[.val (.int p0), .val (.int p1)] [(.int p1), (.int p0)])) := K0.trans (by
    show Steps p.tables e below (s₁.setTop (mkF m 0 #[.val (.int p0), .val (.int p1)] [])) _
    refine XS.iloadN X0.here hx rfl (hb hby d6_0) rfl ?_
    show Steps p.tables e below (s₁.setTop (mkF m 1 #[.val (.int p0), .val (.int p1)] [(.int p0)])) _
    refine XS.iloadN X0.here hx rfl (hb hby d6_1) rfl ?_
    show Steps p.tables e below (s₁.setTop (mkF m 2 #[.val (.int p0), .val (.int p1)] [(.int p1), (.int p0)])) _
    exact Steps.refl _)
  obtain ⟨v2_0, hv2_0, S2⟩ : ∃ (v2_0 : Int32), (if p1 < p0 then p1 else p0) = v2_0 ∧ Steps p.tables e below (s₁.setTop (mkF m 2 #[.val (.int p0), .val (.int p1)] [(.int p1), (.int p0)])) (s₁.setTop (mkF m 10 #[.val (.int p0), .val (.int p1)] [(.int v2_0)])) := by
    have R2 : Steps p.tables e below (s₁.setTop (mkF m 2 #[.val (.int p0), .val (.int p1)] [(.int p1), (.int p0)])) (s₁.setTop (mkF m 2 #[.val (.int p0), .val (.int p1)] [(.int p1), (.int p0)])) := Steps.refl _
    by_cases hc2 : p1 < p0
    · have K3 : Steps p.tables e below _ (s₁.setTop (mkF m 10 #[.val (.int p0), .val (.int p1)] [(.int p1)])) := R2.trans (by
        show Steps p.tables e below (s₁.setTop (mkF m 2 #[.val (.int p0), .val (.int p1)] [(.int p1), (.int p0)])) _
        refine XS.icmpYes X0.here hx rfl (pc0 := 2) (pc' := 9) rfl (hb hby d6_2) rfl (tlt hc2).2.2.1 (by decide) (by decide) ?_
        show Steps p.tables e below (s₁.setTop (mkF m 9 #[.val (.int p0), .val (.int p1)] [])) _
        refine XS.iloadN X0.here hx rfl (hb hby d6_9) rfl ?_
        show Steps p.tables e below (s₁.setTop (mkF m 10 #[.val (.int p0), .val (.int p1)] [(.int p1)])) _
        exact Steps.refl _)
      exact ⟨p1, (by rw [if_pos hc2]), K3⟩
    · have K4 : Steps p.tables e below _ (s₁.setTop (mkF m 10 #[.val (.int p0), .val (.int p1)] [(.int p0)])) := R2.trans (by
        show Steps p.tables e below (s₁.setTop (mkF m 2 #[.val (.int p0), .val (.int p1)] [(.int p1), (.int p0)])) _
        refine XS.icmpNo X0.here hx rfl (hb hby d6_2) rfl (flt hc2).2.2.1 ?_
        show Steps p.tables e below (s₁.setTop (mkF m 5 #[.val (.int p0), .val (.int p1)] [])) _
        refine XS.iloadN X0.here hx rfl (hb hby d6_5) rfl ?_
        show Steps p.tables e below (s₁.setTop (mkF m 6 #[.val (.int p0), .val (.int p1)] [(.int p0)])) _
        refine XS.goto X0.here hx rfl (pc0 := 6) (pc' := 10) rfl (hb hby d6_6) (by decide) (by decide) ?_
        show Steps p.tables e below (s₁.setTop (mkF m 10 #[.val (.int p0), .val (.int p1)] [(.int p0)])) _
        exact Steps.refl _)
      exact ⟨p0, (by rw [if_neg hc2]), K4⟩
  have K5 := K1.trans S2
  subst hv2_0
  obtain ⟨fs, hr, hrun, hended, hW, hsame⟩ := X0.leave (v := some (.int (if p1 < p0 then p1 else p0))) (fun h => by rw [Bd.returns] at h; cases h)
  refine ⟨_, _, K5.trans (retOut X0 hx Bd.returns rfl (Or.inl ⟨rfl, Or.inl rfl, _, rfl⟩) (hb hby d6_10) hr), hrun, hended, _, _, rfl, ?_, ⟨_, rfl⟩, hW, hsame.mono (by decide) (by first | decide | omega)⟩
  show Q_rm6 Z p0 p1 h0 n0 _ s₁.heap _
  rw [e0]
  exact ⟨rfl, N0, rfl⟩
theorem d1_0 : decode prog_13_method_1_code 0 = .ok (.aload_n 0, 1) := by decide +kernel
theorem d1_1 : decode prog_13_method_1_code 1 = .ok (.invokespecial 1, 3) := by decide +kernel
theorem d1_4 : decode prog_13_method_1_code 4 = .ok (.aload_n 0, 1) := by decide +kernel
theorem d1_5 : decode prog_13_method_1_code 5 = .ok (.iload_n 1, 1) := by decide +kernel
theorem d1_6 : decode prog_13_method_1_code 6 = .ok (.newarray .long, 2) := by decide +kernel
theorem d1_8 : decode prog_13_method_1_code 8 = .ok (.putfield 7, 3) := by decide +kernel
theorem d1_11 : decode prog_13_method_1_code 11 = .ok (.aload_n 0, 1) := by decide +kernel
theorem d1_12 : decode prog_13_method_1_code 12 = .ok (.iload_n 1, 1) := by decide +kernel
theorem d1_13 : decode prog_13_method_1_code 13 = .ok (.newarray .long, 2) := by decide +kernel
theorem d1_15 : decode prog_13_method_1_code 15 = .ok (.putfield 13, 3) := by decide +kernel
theorem d1_18 : decode prog_13_method_1_code 18 = .ok (.aload_n 0, 1) := by decide +kernel
theorem d1_19 : decode prog_13_method_1_code 19 = .ok (.iload_n 1, 1) := by decide +kernel
theorem d1_20 : decode prog_13_method_1_code 20 = .ok (.newarray .byte, 2) := by decide +kernel
theorem d1_22 : decode prog_13_method_1_code 22 = .ok (.putfield 16, 3) := by decide +kernel
def Q_rm1 (Z : State) (o0 : Addr) (p1 : Int32) (w_size : Int32) (u3_froms : Value) (u4_tos : Value) (u5_ends : Value) (h0 : Heap) (n0 : Nat) (v : Option Value) (h : Heap) (L : List Loc) : Prop := ∃ b5 : Addr, ∃ b12 : Addr, ∃ b23 : Addr, ∃ k5 : ClassId, ∃ k12 : ClassId, ∃ k23 : ClassId, v = none ∧ Fr n0 L ∧ Keep h0 h [o0] ∧ Exa Z h o0 "com/example/spanfold/spanfold/RangeList" ∧ Fld Z h o0 "com/example/spanfold/spanfold/RangeList" "size" "I" (.int w_size) ∧ Arv Z h b5 k5 .long p1 (List.replicate 3 (.long (0 : Int64))) (.long (0 : Int64)) ∧ Exa Z h b5 "[J" ∧ Fld Z h o0 "com/example/spanfold/spanfold/RangeList" "froms" "[J" (.ref b5) ∧ Arv Z h b12 k12 .long p1 (List.replicate 3 (.long (0 : Int64))) (.long (0 : Int64)) ∧ Exa Z h b12 "[J" ∧ Fld Z h o0 "com/example/spanfold/spanfold/RangeList" "tos" "[J" (.ref b12) ∧ Arv Z h b23 k23 .byte p1 (List.replicate 3 (.int (0 : Int32))) (.int (0 : Int32)) ∧ Exa Z h b23 "[B" ∧ Fld Z h o0 "com/example/spanfold/spanfold/RangeList" "ends" "[B" (.ref b23) ∧ h0.size ≤ b5 ∧ h0.size ≤ b12 ∧ h0.size ≤ b23 ∧ b5 ≠ b12 ∧ b5 ≠ b23 ∧ b12 ≠ b23
theorem pn_1 : plainName "com/example/spanfold/spanfold/RangeList" = true := by first | (simp [plainName, overriddenIn]; done) | decide +kernel
theorem ef_1 (m : MethodId) (x0 : Addr) (x1 : Int32) : entryFrame m #[(.ref x0), (.int x1)] 2 = mkF m 0 #[.val (.ref x0), .val (.int x1)] [] := by first | (simp [entryFrame, mkF, argsToLocals, Value.category]; done) | rfl
theorem d1_25 : decode prog_13_method_1_code 25 = .ok (.return_, 1) := by decide +kernel
set_option maxRecDepth 65536 in
set_option maxHeartbeats 40000000 in
theorem rm1 (l : Launch) (Z : State) (a0 : Array Value) (hw : ∀ d ∈ tables_1, d.before a0 Z = true) (ws : List Jvm.Cond) (o0 : Addr) (p1 : Int32) (w_size : Int32) (u3_froms : Value) (u4_tos : Value) (u5_ends : Value) (h0 : Heap) (n0 : Nat) (Z0 : n0 ≤ h0.size) (E_o0 : Exa Z h0 o0 "com/example/spanfold/spanfold/RangeList") (F_size_o0 : Fld Z h0 o0 "com/example/spanfold/spanfold/RangeList" "size" "I" (.int w_size)) (g_o0 : n0 ≤ o0) (hp : ¬ (p1 < (0 : Int32)) ∧ p1.toNatClampNeg ≤ 3) (F_froms_o0 : Fld Z h0 o0 "com/example/spanfold/spanfold/RangeList" "froms" "[J" u3_froms) (F_tos_o0 : Fld Z h0 o0 "com/example/spanfold/spanfold/RangeList" "tos" "[J" u4_tos) (F_ends_o0 : Fld Z h0 o0 "com/example/spanfold/spanfold/RangeList" "ends" "[B" u5_ends) :
    MetFree l (⟨"com/example/spanfold/spanfold/RangeList", "<init>", "(I)V"⟩ : MethodName) (head1 (Jvm.Cond.code (⟨"com/example/spanfold/spanfold/RangeList", "<init>", "(I)V"⟩ : MethodName) prog_13_method_1_code 2 none :: ws) ({ frames := 1, cells := 3, slots := 9, locals := 12 } : Room)) (fun a U => a = #[(.ref o0), (.int p1)] ∧ Z.Warmed39 U.vm ∧ U.heap = h0) (fun _ _ _ _ _ => True) (fun _ U o U' => ∃ v L, o = .returned v ∧ Q_rm1 Z o0 p1 w_size u3_froms u4_tos u5_ends h0 n0 v U'.heap L ∧ FrameEnd U o U' L ({ frames := 1, cells := 3, slots := 9, locals := 12 } : Room).cells ({ frames := 1, cells := 3, slots := 9, locals := 12 } : Room).slots) := by
  refine MetFree.of_bodySF (plainFor_of_name pn_1) hisR ?_
  intro p e s m args below meth c s₁ Bd hml0 hP hK
  obtain ⟨rfl, hZ, hh⟩ := hP
  have hx := Bd.exec
  have hby := Bd.bytes
  have hml : c.maxLocals = 2 := hml0
  have hown : s.vm.findClass "com/example/spanfold/spanfold/RangeList" = some m.cls := findClass_of_methodNamed Bd.named
  have hnm := (name_of_methodNamed Bd.named Bd.method).1
  have X0 : Stand p l e ({ frames := 1, cells := 3, slots := 9, locals := 12 } : Room) s m #[(.ref o0), (.int p1)] below meth c s₁ [] 0 0 := Stand.of_body Bd
  have e0 : s₁.heap = h0 := by rw [← hh, Bd.state]; rfl
  have N0 := Fr.nil n0
  have Kp0 : Keep h0 h0 [o0] := Keep.refl _ _
  have K0 : Steps p.tables e below (s₁.setTop (entryFrame m #[(.ref o0), (.int p1)] 2)) (s₁.setTop (mkF m 0 #[.val (.ref o0), .val (.int p1)] [])) := castTop (ef_1 m o0 p1) (Steps.refl _)
  have K1 : Steps p.tables e below _ (s₁.setTop (mkF m 1 #[.val (.ref o0), .val (.int p1)] [(.ref o0)])) := K0.trans (by
    show Steps p.tables e below (s₁.setTop (mkF m 0 #[.val (.ref o0), .val (.int p1)] [])) _
    refine XS.aloadN X0.here hx rfl (hb hby d1_0) rfl rfl ?_
    show Steps p.tables e below (s₁.setTop (mkF m 1 #[.val (.ref o0), .val (.int p1)] [(.ref o0)])) _
    exact Steps.refl _)
  obtain ⟨T2, X2, e2, st2⟩ := initO X0 hx hZ hown (hw _ (List.mem_of_getElem? (i := 6) rfl)) (hw _ (List.mem_of_getElem? (i := 7) rfl)) (hw _ (List.mem_of_getElem? (i := 8) rfl)) e0 (g := (mkF m 1 #[.val (.ref o0), .val (.int p1)] [(.ref o0)])) rfl (by rw [hml]; rfl) rfl (hb hby d1_1) (by decide) (W := 0) (by show 2 * 0 + _ ≤ _; exact Nat.le_of_eq rfl) (by decide)
  have K3 : Steps p.tables e below _ (T2.setTop (mkF m 4 #[.val (.ref o0), .val (.int p1)] [])) := K1.trans (st2 _ (Steps.refl _))
  have K4 : Steps p.tables e below _ (T2.setTop (mkF m 6 #[.val (.ref o0), .val (.int p1)] [(.int p1), (.ref o0)])) := K3.trans (by
    show Steps p.tables e below (T2.setTop (mkF m 4 #[.val (.ref o0), .val (.int p1)] [])) _
    refine XS.aloadN X2.here hx rfl (hb hby d1_4) rfl rfl ?_
    show Steps p.tables e below (T2.setTop (mkF m 5 #[.val (.ref o0), .val (.int p1)] [(.ref o0)])) _
    refine XS.iloadN X2.here hx rfl (hb hby d1_5) rfl ?_
    show Steps p.tables e below (T2.setTop (mkF m 6 #[.val (.ref o0), .val (.int p1)] [(.int p1), (.ref o0)])) _
    exact Steps.refl _)
  obtain ⟨T5, h5, k5, b5, X5, e5, E5, g5, V5, A5, st5⟩ := own_newJ X2 hx hZ (hw _ (List.mem_of_getElem? (i := 9) rfl)) e2 (g := (mkF m 6 #[.val (.ref o0), .val (.int p1)] [(.int p1), (.ref o0)])) rfl (hb hby d1_6) rfl hp.1 3 hp.2 (by decide) (by decide) (by decide)
  have ne_o0_b5 : o0 ≠ b5 := Nat.ne_of_lt (Nat.lt_of_lt_of_le E_o0.lt (Nat.le_of_eq g5.symm))
  have ge_b5 : n0 ≤ b5 := Nat.le_trans Z0 (Nat.le_of_eq g5.symm)
  have sz_b5 : h0.size ≤ b5 := Nat.le_trans Kp0.1 (Nat.le_of_eq g5.symm)
  have K6 : Steps p.tables e below _ (T5.setTop (mkF m 8 #[.val (.ref o0), .val (.int p1)] [(.ref b5), (.ref o0)])) := K4.trans st5
  have Vn5 : Arv Z h5 b5 k5 .long p1 (List.replicate 3 (.long (0 : Int64))) (.long (0 : Int64)) := V5
  have E_7 : Exa Z h5 o0 "com/example/spanfold/spanfold/RangeList" := (E_o0.ext E5)
  have F_8 : Fld Z h5 o0 "com/example/spanfold/spanfold/RangeList" "froms" "[J" u3_froms := (F_froms_o0.ext E5)
  obtain ⟨T9, h9, X9, e9, W9, st9⟩ := putF X5 hx hZ hown (host := "") (Or.inl (hw _ (List.mem_of_getElem? (i := 10) rfl))) Via.refl e5 F_8 E_7 (Or.inl (hw _ (List.mem_of_getElem? (i := 11) rfl))) (hw _ (List.mem_of_getElem? (i := 1) rfl)) (ty := (.array .long)) (by decide) rfl rfl (g := (mkF m 8 #[.val (.ref o0), .val (.int p1)] [(.ref b5), (.ref o0)])) rfl rfl (hb hby d1_8)
  have K10 : Steps p.tables e below _ (T9.setTop (mkF m 11 #[.val (.ref o0), .val (.int p1)] [])) := K6.trans (st9 _ (Steps.refl _))
  have Fw9 : Fld Z h9 o0 "com/example/spanfold/spanfold/RangeList" "froms" "[J" (.ref b5) := F_8.same W9
  have N9 := Fr.snoc X9 N0 g_o0
  have K11 : Steps p.tables e below _ (T9.setTop (mkF m 13 #[.val (.ref o0), .val (.int p1)] [(.int p1), (.ref o0)])) := K10.trans (by
    show Steps p.tables e below (T9.setTop (mkF m 11 #[.val (.ref o0), .val (.int p1)] [])) _
    refine XS.aloadN X9.here hx rfl (hb hby d1_11) rfl rfl ?_
    show Steps p.tables e below (T9.setTop (mkF m 12 #[.val (.ref o0), .val (.int p1)] [(.ref o0)])) _
    refine XS.iloadN X9.here hx rfl (hb hby d1_12) rfl ?_
    show Steps p.tables e below (T9.setTop (mkF m 13 #[.val (.ref o0), .val (.int p1)] [(.int p1), (.ref o0)])) _
    exact Steps.refl _)
  have Z_13 : n0 ≤ h9.size := (Nat.le_trans (Nat.le_trans Z0 E5.1) (Keep.of_wr W9).1)
  have K_14 : Keep h0 h9 [o0] := ((Kp0.ext E5).wr W9 (Or.inl (List.mem_of_getElem? (i := 0) rfl)))
  obtain ⟨T12, h12, k12, b12, X12, e12, E12, g12, V12, A12, st12⟩ := own_newJ X9 hx hZ (hw _ (List.mem_of_getElem? (i := 9) rfl)) e9 (g := (mkF m 13 #[.val (.ref o0), .val (.int p1)] [(.int p1), (.ref o0)])) rfl (hb hby d1_13) rfl hp.1 3 hp.2 (by decide) (by decide) (by decide)
  have E_15 : Exa Z h9 o0 "com/example/spanfold/spanfold/RangeList" := (E_7.wr W9)
  have ne_o0_b12 : o0 ≠ b12 := Nat.ne_of_lt (Nat.lt_of_lt_of_le E_15.lt (Nat.le_of_eq g12.symm))
  have V_16 : Arv Z h9 b5 k5 .long p1 (List.replicate 3 (.long (0 : Int64))) (.long (0 : Int64)) := (Vn5.other W9 (Ne.symm ne_o0_b5))
  have ne_b5_b12 : b5 ≠ b12 := Nat.ne_of_lt (Nat.lt_of_lt_of_le V_16.lt (Nat.le_of_eq g12.symm))
  have ge_b12 : n0 ≤ b12 := Nat.le_trans Z_13 (Nat.le_of_eq g12.symm)
  have sz_b12 : h0.size ≤ b12 := Nat.le_trans K_14.1 (Nat.le_of_eq g12.symm)
  have K17 : Steps p.tables e below _ (T12.setTop (mkF m 15 #[.val (.ref o0), .val (.int p1)] [(.ref b12), (.ref o0)])) := K11.trans st12
  have Vn12 : Arv Z h12 b12 k12 .long p1 (List.replicate 3 (.long (0 : Int64))) (.long (0 : Int64)) := V12
  have E_18 : Exa Z h12 o0 "com/example/spanfold/spanfold/RangeList" := (E_15.ext E12)
  have F_19 : Fld Z h12 o0 "com/example/spanfold/spanfold/RangeList" "tos" "[J" u4_tos := (((F_tos_o0.ext E5).other W9 (Or.inr (slot_ne (Or.inl (hw _ (List.mem_of_getElem? (i := 13) rfl))) (Or.inl (hw _ (List.mem_of_getElem? (i := 11) rfl))) (by decide) (t := (.array .long)) (t' := (.array .long)) (by decide) (by decide)))).ext E12)
  obtain ⟨T20, h20, X20, e20, W20, st20⟩ := putF X12 hx hZ hown (host := "") (Or.inl (hw _ (List.mem_of_getElem? (i := 12) rfl))) Via.refl e12 F_19 E_18 (Or.inl (hw _ (List.mem_of_getElem? (i := 13) rfl))) (hw _ (List.mem_of_getElem? (i := 1) rfl)) (ty := (.array .long)) (by decide) rfl rfl (g := (mkF m 15 #[.val (.ref o0), .val (.int p1)] [(.ref b12), (.ref o0)])) rfl rfl (hb hby d1_15)
  have K21 : Steps p.tables e below _ (T20.setTop (mkF m 18 #[.val (.ref o0), .val (.int p1)] [])) := K17.trans (st20 _ (Steps.refl _))
  have Fw20 : Fld Z h20 o0 "com/example/spanfold/spanfold/RangeList" "tos" "[J" (.ref b12) := F_19.same W20
  have N20 := Fr.snoc X20 N9 g_o0
  have K22 : Steps p.tables e below _ (T20.setTop (mkF m 20 #[.val (.ref o0), .val (.int p1)] [(.int p1), (.ref o0)])) := K21.trans (by
    show Steps p.tables e below (T20.setTop (mkF m 18 #[.val (.ref o0), .val (.int p1)] [])) _
    refine XS.aloadN X20.here hx rfl (hb hby d1_18) rfl rfl ?_
    show Steps p.tables e below (T20.setTop (mkF m 19 #[.val (.ref o0), .val (.int p1)] [(.ref o0)])) _
    refine XS.iloadN X20.here hx rfl (hb hby d1_19) rfl ?_
    show Steps p.tables e below (T20.setTop (mkF m 20 #[.val (.ref o0), .val (.int p1)] [(.int p1), (.ref o0)])) _
    exact Steps.refl _)
  have Z_24 : n0 ≤ h20.size := (Nat.le_trans (Nat.le_trans Z_13 E12.1) (Keep.of_wr W20).1)
  have K_25 : Keep h0 h20 [o0] := ((K_14.ext E12).wr W20 (Or.inl (List.mem_of_getElem? (i := 0) rfl)))
  obtain ⟨T23, h23, k23, b23, X23, e23, E23, g23, V23, A23, st23⟩ := own_newB X20 hx hZ (hw _ (List.mem_of_getElem? (i := 14) rfl)) e20 (g := (mkF m 20 #[.val (.ref o0), .val (.int p1)] [(.int p1), (.ref o0)])) rfl (hb hby d1_20) rfl hp.1 3 hp.2 (by decide) (by decide) (by decide)
  have E_26 : Exa Z h20 o0 "com/example/spanfold/spanfold/RangeList" := (E_18.wr W20)
  have ne_o0_b23 : o0 ≠ b23 := Nat.ne_of_lt (Nat.lt_of_lt_of_le E_26.lt (Nat.le_of_eq g23.symm))
  have V_27 : Arv Z h20 b5 k5 .long p1 (List.replicate 3 (.long (0 : Int64))) (.long (0 : Int64)) := ((V_16.ext E12).other W20 (Ne.symm ne_o0_b5))
  have ne_b5_b23 : b5 ≠ b23 := Nat.ne_of_lt (Nat.lt_of_lt_of_le V_27.lt (Nat.le_of_eq g23.symm))
  have V_28 : Arv Z h20 b12 k12 .long p1 (List.replicate 3 (.long (0 : Int64))) (.long (0 : Int64)) := (Vn12.other W20 (Ne.symm ne_o0_b12))
  have ne_b12_b23 : b12 ≠ b23 := Nat.ne_of_lt (Nat.lt_of_lt_of_le V_28.lt (Nat.le_of_eq g23.symm))
  have ge_b23 : n0 ≤ b23 := Nat.le_trans Z_24 (Nat.le_of_eq g23.symm)
  have sz_b23 : h0.size ≤ b23 := Nat.le_trans K_25.1 (Nat.le_of_eq g23.symm)
  have K29 : Steps p.tables e below _ (T23.setTop (mkF m 22 #[.val (.ref o0), .val (.int p1)] [(.ref b23), (.ref o0)])) := K22.trans st23
  have Vn23 : Arv Z h23 b23 k23 .byte p1 (List.replicate 3 (.int (0 : Int32))) (.int (0 : Int32)) := V23
  have E_30 : Exa Z h23 o0 "com/example/spanfold/spanfold/RangeList" := (E_26.ext E23)
  have F_31 : Fld Z h23 o0 "com/example/spanfold/spanfold/RangeList" "ends" "[B" u5_ends := (((((F_ends_o0.ext E5).other W9 (Or.inr (slot_ne (Or.inl (hw _ (List.mem_of_getElem? (i := 16) rfl))) (Or.inl (hw _ (List.mem_of_getElem? (i := 11) rfl))) (by decide) (t := (.array .byte)) (t' := (.array .long)) (by decide) (by decide)))).ext E12).other W20 (Or.inr (slot_ne (Or.inl (hw _ (List.mem_of_getElem? (i := 16) rfl))) (Or.inl (hw _ (List.mem_of_getElem? (i := 13) rfl))) (by decide) (t := (.array .byte)) (t' := (.array .long)) (by decide) (by decide)))).ext E23)
  obtain ⟨T32, h32, X32, e32, W32, st32⟩ := putF X23 hx hZ hown (host := "") (Or.inl (hw _ (List.mem_of_getElem? (i := 15) rfl))) Via.refl e23 F_31 E_30 (Or.inl (hw _ (List.mem_of_getElem? (i := 16) rfl))) (hw _ (List.mem_of_getElem? (i := 1) rfl)) (ty := (.array .byte)) (by decide) rfl rfl (g := (mkF m 22 #[.val (.ref o0), .val (.int p1)] [(.ref b23), (.ref o0)])) rfl rfl (hb hby d1_22)
  have K33 : Steps p.tables e below _ (T32.setTop (mkF m 25 #[.val (.ref o0), .val (.int p1)] [])) := K29.trans (st32 _ (Steps.refl _))
  have Fw32 : Fld Z h32 o0 "com/example/spanfold/spanfold/RangeList" "ends" "[B" (.ref b23) := F_31.same W32
  have N32 := Fr.snoc X32 N20 g_o0
  obtain ⟨fs, hr, hrun, hended, hW, hsame⟩ := X32.leave (v := none) (fun _ => rfl)
  have K_34 : Keep h0 h32 [o0] := ((K_25.ext E23).wr W32 (Or.inl (List.mem_of_getElem? (i := 0) rfl)))
  have E_35 : Exa Z h32 o0 "com/example/spanfold/spanfold/RangeList" := (E_30.wr W32)
  have F_36 : Fld Z h32 o0 "com/example/spanfold/spanfold/RangeList" "size" "I" (.int w_size) := ((((((F_size_o0.ext E5).other W9 (Or.inr (slot_ne (Or.inl (hw _ (List.mem_of_getElem? (i := 23) rfl))) (Or.inl (hw _ (List.mem_of_getElem? (i := 11) rfl))) (by decide) (t := .int) (t' := (.array .long)) (by decide) (by decide)))).ext E12).other W20 (Or.inr (slot_ne (Or.inl (hw _ (List.mem_of_getElem? (i := 23) rfl))) (Or.inl (hw _ (List.mem_of_getElem? (i := 13) rfl))) (by decide) (t := .int) (t' := (.array .long)) (by decide) (by decide)))).ext E23).other W32 (Or.inr (slot_ne (Or.inl (hw _ (List.mem_of_getElem? (i := 23) rfl))) (Or.inl (hw _ (List.mem_of_getElem? (i := 16) rfl))) (by decide) (t := .int) (t' := (.array .byte)) (by decide) (by decide))))
  have V_37 : Arv Z h32 b5 k5 .long p1 (List.replicate 3 (.long (0 : Int64))) (.long (0 : Int64)) := ((V_27.ext E23).other W32 (Ne.symm ne_o0_b5))
  have E_38 : Exa Z h32 b5 "[J" := (((((A5.wr W9).ext E12).wr W20).ext E23).wr W32)
  have F_39 : Fld Z h32 o0 "com/example/spanfold/spanfold/RangeList" "froms" "[J" (.ref b5) := ((((Fw9.ext E12).other W20 (Or.inr (slot_ne (Or.inl (hw _ (List.mem_of_getElem? (i := 11) rfl))) (Or.inl (hw _ (List.mem_of_getElem? (i := 13) rfl))) (by decide) (t := (.array .long)) (t' := (.array .long)) (by decide) (by decide)))).ext E23).other W32 (Or.inr (slot_ne (Or.inl (hw _ (List.mem_of_getElem? (i := 11) rfl))) (Or.inl (hw _ (List.mem_of_getElem? (i := 16) rfl))) (by decide) (t := (.array .long)) (t' := (.array .byte)) (by decide) (by decide))))
  have V_40 : Arv Z h32 b12 k12 .long p1 (List.replicate 3 (.long (0 : Int64))) (.long (0 : Int64)) := ((V_28.ext E23).other W32 (Ne.symm ne_o0_b12))
  have E_41 : Exa Z h32 b12 "[J" := (((A12.wr W20).ext E23).wr W32)
  have F_42 : Fld Z h32 o0 "com/example/spanfold/spanfold/RangeList" "tos" "[J" (.ref b12) := ((Fw20.ext E23).other W32 (Or.inr (slot_ne (Or.inl (hw _ (List.mem_of_getElem? (i := 13) rfl))) (Or.inl (hw _ (List.mem_of_getElem? (i := 16) rfl))) (by decide) (t := (.array .long)) (t' := (.array .byte)) (by decide) (by decide))))
  have V_43 : Arv Z h32 b23 k23 .byte p1 (List.replicate 3 (.int (0 : Int32))) (.int (0 : Int32)) := (Vn23.other W32 (Ne.symm ne_o0_b23))
  have E_44 : Exa Z h32 b23 "[B" := (A23.wr W32)
  refine ⟨_, _, K33.trans (X32.returnOut hx Bd.returns (hb hby d1_25) hr), hrun, hended, _, _, rfl, ?_, ⟨_, rfl⟩, hW, hsame.mono (by decide) (by first | decide | omega)⟩
  show Q_rm1 Z o0 p1 w_size u3_froms u4_tos u5_ends h0 n0 _ T32.heap _
  rw [e32]
  exact ⟨b5, b12, b23, k5, k12, k23, rfl, N32, K_34, E_35, F_36, V_37, E_38, F_39, V_40, E_41, F_42, V_43, E_44, Fw32, sz_b5, sz_b12, sz_b23, ne_b5_b12, ne_b5_b23, ne_b12_b23⟩
theorem d5_0 : decode jdk_65_method_124_code 0 = .ok (.iload_n 1, 1) := by decide +kernel
theorem d5_1 : decode jdk_65_method_124_code 1 = .ok (.aload_n 0, 1) := by decide +kernel
theorem d5_2 : decode jdk_65_method_124_code 2 = .ok (.arraylength, 1) := by decide +kernel
theorem d5_3 : decode jdk_65_method_124_code 3 = .ok (.if_icmp .ne 11, 3) := by decide +kernel
theorem d5_14 : decode jdk_65_method_124_code 14 = .ok (.iload_n 1, 1) := by decide +kernel
theorem d5_15 : decode jdk_65_method_124_code 15 = .ok (.newarray .long, 2) := by decide +kernel
theorem d5_17 : decode jdk_65_method_124_code 17 = .ok (.astore_n 2, 1) := by decide +kernel
theorem d5_18 : decode jdk_65_method_124_code 18 = .ok (.aload_n 0, 1) := by decide +kernel
theorem d5_19 : decode jdk_65_method_124_code 19 = .ok (.iconst 0, 1) := by decide +kernel
theorem d5_20 : decode jdk_65_method_124_code 20 = .ok (.aload_n 2, 1) := by decide +kernel
theorem d5_21 : decode jdk_65_method_124_code 21 = .ok (.iconst 0, 1) := by decide +kernel
theorem d5_22 : decode jdk_65_method_124_code 22 = .ok (.aload_n 0, 1) := by decide +kernel
theorem d5_23 : decode jdk_65_method_124_code 23 = .ok (.arraylength, 1) := by decide +kernel
theorem d5_24 : decode jdk_65_method_124_code 24 = .ok (.iload_n 1, 1) := by decide +kernel
theorem pd_0 : parseMethodDescriptor "(II)I" = some ⟨[.int, .int], some .int⟩ := by decide +kernel
theorem d5_25 : decode jdk_65_method_124_code 25 = .ok (.invokestatic 304, 3) := by decide +kernel
theorem d5_28 : decode jdk_65_method_124_code 28 = .ok (.invokestatic 150, 3) := by decide +kernel
theorem d5_31 : decode jdk_65_method_124_code 31 = .ok (.aload_n 2, 1) := by decide +kernel
def Q_rm5 (Z : State) (o0 : Addr) (k0 : ClassId) (z0 : Int32) (vs0 : List Value) (h0 : Heap) (n0 : Nat) (v : Option Value) (h : Heap) (L : List Loc) : Prop := ∃ b4 : Addr, ∃ k4 : ClassId, v = some (.ref b4) ∧ Fr n0 L ∧ Keep h0 h [] ∧ Exa Z h b4 "[J" ∧ Arv Z h b4 k4 .long (8 : Int32) (own_cp 8 z0.toNatClampNeg vs0 (.long (0 : Int64))) (.long (0 : Int64)) ∧ h0.size ≤ b4
theorem pn_5 : plainName "java/util/Arrays" = true := by first | (simp [plainName, overriddenIn]; done) | decide +kernel
theorem ef_5c1_8Int32 (m : MethodId) (x0 : Addr) : entryFrame m #[(.ref x0), (.int (8 : Int32))] 3 = mkF m 0 #[.val (.ref x0), .val (.int (8 : Int32)), .unset] [] := by first | (simp [entryFrame, mkF, argsToLocals, Value.category]; done) | rfl
theorem d5_32 : decode jdk_65_method_124_code 32 = .ok (.areturn, 1) := by decide +kernel
set_option maxRecDepth 65536 in
set_option maxHeartbeats 40000000 in
theorem rm5 (l : Launch) (Z : State) (a0 : Array Value) (hw : ∀ d ∈ tables_1, d.before a0 Z = true) (ws : List Jvm.Cond) (o0 : Addr) (k0 : ClassId) (z0 : Int32) (vs0 : List Value) (h0 : Heap) (n0 : Nat) (Z0 : n0 ≤ h0.size) (V_o0 : Arv Z h0 o0 k0 .long z0 vs0 (.long (0 : Int64))) (hz : ¬ (z0 < (0 : Int32)) ∧ z0 < (8 : Int32)) (hzn : z0.toNatClampNeg ≤ 8) :
    MetFree l (⟨"java/util/Arrays", "copyOf", "([JI)[J"⟩ : MethodName) (head1 (Jvm.Cond.code (⟨"java/util/Arrays", "copyOf", "([JI)[J"⟩ : MethodName) jdk_65_method_124_code 3 (some (.array .long)) :: ws) ({ frames := 1, cells := 1, slots := 8, locals := 36 } : Room)) (fun a U => a = #[(.ref o0), (.int (8 : Int32))] ∧ Z.Warmed39 U.vm ∧ U.heap = h0) (fun _ _ _ _ _ => True) (fun _ U o U' => ∃ v L, o = .returned v ∧ Q_rm5 Z o0 k0 z0 vs0 h0 n0 v U'.heap L ∧ FrameEnd U o U' L ({ frames := 1, cells := 1, slots := 8, locals := 36 } : Room).cells ({ frames := 1, cells := 1, slots := 8, locals := 36 } : Room).slots) := by
  refine MetFree.of_bodySF (plainFor_of_name pn_5) hisR ?_
  intro p e s m args below meth c s₁ Bd hml0 hP hK
  obtain ⟨rfl, hZ, hh⟩ := hP
  have hx := Bd.exec
  have hby := Bd.bytes
  have hml : c.maxLocals = 3 := hml0
  have hown : s.vm.findClass "java/util/Arrays" = some m.cls := findClass_of_methodNamed Bd.named
  have hnm := (name_of_methodNamed Bd.named Bd.method).1
  have X0 : Stand p l e ({ frames := 1, cells := 1, slots := 8, locals := 36 } : Room) s m #[(.ref o0), (.int (8 : Int32))] below meth c s₁ [] 0 0 := Stand.of_body Bd
  have e0 : s₁.heap = h0 := by rw [← hh, Bd.state]; rfl
  have N0 := Fr.nil n0
  have Kp0 : Keep h0 h0 [] := Keep.refl _ _
  have K0 : Steps p.tables e below (s₁.setTop (entryFrame m #[(.ref o0), (.int (8 : Int32))] 3)) (s₁.setTop (mkF m 0 #[.val (.ref o0), .val (.int (8 : Int32)), .unset] [])) := castTop (ef_5c1_8Int32 m o0) (Steps.refl _)
  have K2 : Steps p.tables e below _ (s₁.setTop (mkF m 3 #[.val (.ref o0), .val (.int (8 : Int32)), .unset] [(.int z0), (.int (8 : Int32))])) := K0.trans (by
    show Steps p.tables e below (s₁.setTop (mkF m 0 #[.val (.ref o0), .val (.int (8 : Int32)), .unset] [])) _
    refine XS.iloadN X0.here hx rfl (hb hby d5_0) rfl ?_
    show Steps p.tables e below (s₁.setTop (mkF m 1 #[.val (.ref o0), .val (.int (8 : Int32)), .unset] [(.int (8 : Int32))])) _
    refine XS.aloadN X0.here hx rfl (hb hby d5_1) rfl rfl ?_
    show Steps p.tables e below (s₁.setTop (mkF m 2 #[.val (.ref o0), .val (.int (8 : Int32)), .unset] [(.ref o0), (.int (8 : Int32))])) _
    refine (own_len X0 hx hZ e0 V_o0 (g := (mkF m 2 #[.val (.ref o0), .val (.int (8 : Int32)), .unset] [(.ref o0), (.int (8 : Int32))])) rfl rfl (hb hby d5_2)).trans ?_
    show Steps p.tables e below (s₁.setTop (mkF m 3 #[.val (.ref o0), .val (.int (8 : Int32)), .unset] [(.int z0), (.int (8 : Int32))])) _
    exact Steps.refl _)
  have hc3_0 : ¬ ((8 : Int32) = z0) := (fun q => absurd hz.2 (by rw [← q]; decide))
  have K3 : Steps p.tables e below _ (s₁.setTop (mkF m 15 #[.val (.ref o0), .val (.int (8 : Int32)), .unset] [(.int (8 : Int32))])) := K2.trans (by
    show Steps p.tables e below (s₁.setTop (mkF m 3 #[.val (.ref o0), .val (.int (8 : Int32)), .unset] [(.int z0), (.int (8 : Int32))])) _
    refine XS.icmpYes X0.here hx rfl (pc0 := 3) (pc' := 14) rfl (hb hby d5_3) rfl (feq hc3_0).2 (by decide) (by decide) ?_
    show Steps p.tables e below (s₁.setTop (mkF m 14 #[.val (.ref o0), .val (.int (8 : Int32)), .unset] [])) _
    refine XS.iloadN X0.here hx rfl (hb hby d5_14) rfl ?_
    show Steps p.tables e below (s₁.setTop (mkF m 15 #[.val (.ref o0), .val (.int (8 : Int32)), .unset] [(.int (8 : Int32))])) _
    exact Steps.refl _)
  obtain ⟨T4, h4, k4, b4, X4, e4, E4, g4, V4, A4, st4⟩ := own_newJ X0 hx hZ (hw _ (List.mem_of_getElem? (i := 9) rfl)) e0 (g := (mkF m 15 #[.val (.ref o0), .val (.int (8 : Int32)), .unset] [(.int (8 : Int32))])) rfl (hb hby d5_15) rfl (by decide) 8 (by decide) (by decide) (by decide) (by decide)
  have ne_o0_b4 : o0 ≠ b4 := Nat.ne_of_lt (Nat.lt_of_lt_of_le V_o0.lt (Nat.le_of_eq g4.symm))
  have ge_b4 : n0 ≤ b4 := Nat.le_trans Z0 (Nat.le_of_eq g4.symm)
  have sz_b4 : h0.size ≤ b4 := Nat.le_trans Kp0.1 (Nat.le_of_eq g4.symm)
  have K5 : Steps p.tables e below _ (T4.setTop (mkF m 17 #[.val (.ref o0), .val (.int (8 : Int32)), .unset] [(.ref b4)])) := K3.trans st4
  have Vn4 : Arv Z h4 b4 k4 .long (8 : Int32) [(.long (0 : Int64)), (.long (0 : Int64)), (.long (0 : Int64)), (.long (0 : Int64)), (.long (0 : Int64)), (.long (0 : Int64)), (.long (0 : Int64)), (.long (0 : Int64))] (.long (0 : Int64)) := V4
  have V_6 : Arv Z h4 o0 k0 .long z0 vs0 (.long (0 : Int64)) := (V_o0.ext E4)
  have K7 : Steps p.tables e below _ (T4.setTop (mkF m 25 #[.val (.ref o0), .val (.int (8 : Int32)), .val (.ref b4)] [(.int (8 : Int32)), (.int z0), (.int (0 : Int32)), (.ref b4), (.int (0 : Int32)), (.ref o0)])) := K5.trans (by
    show Steps p.tables e below (T4.setTop (mkF m 17 #[.val (.ref o0), .val (.int (8 : Int32)), .unset] [(.ref b4)])) _
    refine XS.astoreN X4.here hx rfl (hb hby d5_17) rfl rfl (l' := #[.val (.ref o0), .val (.int (8 : Int32)), .val (.ref b4)]) rfl ?_
    show Steps p.tables e below (T4.setTop (mkF m 18 #[.val (.ref o0), .val (.int (8 : Int32)), .val (.ref b4)] [])) _
    refine XS.aloadN X4.here hx rfl (hb hby d5_18) rfl rfl ?_
    show Steps p.tables e below (T4.setTop (mkF m 19 #[.val (.ref o0), .val (.int (8 : Int32)), .val (.ref b4)] [(.ref o0)])) _
    refine XS.iconst X4.here hx rfl (hb hby d5_19) ?_
    show Steps p.tables e below (T4.setTop (mkF m 20 #[.val (.ref o0), .val (.int (8 : Int32)), .val (.ref b4)] [(.int (0 : Int32)), (.ref o0)])) _
    refine XS.aloadN X4.here hx rfl (hb hby d5_20) rfl rfl ?_
    show Steps p.tables e below (T4.setTop (mkF m 21 #[.val (.ref o0), .val (.int (8 : Int32)), .val (.ref b4)] [(.ref b4), (.int (0 : Int32)), (.ref o0)])) _
    refine XS.iconst X4.here hx rfl (hb hby d5_21) ?_
    show Steps p.tables e below (T4.setTop (mkF m 22 #[.val (.ref o0), .val (.int (8 : Int32)), .val (.ref b4)] [(.int (0 : Int32)), (.ref b4), (.int (0 : Int32)), (.ref o0)])) _
    refine XS.aloadN X4.here hx rfl (hb hby d5_22) rfl rfl ?_
    show Steps p.tables e below (T4.setTop (mkF m 23 #[.val (.ref o0), .val (.int (8 : Int32)), .val (.ref b4)] [(.ref o0), (.int (0 : Int32)), (.ref b4), (.int (0 : Int32)), (.ref o0)])) _
    refine (own_len X4 hx hZ e4 V_6 (g := (mkF m 23 #[.val (.ref o0), .val (.int (8 : Int32)), .val (.ref b4)] [(.ref o0), (.int (0 : Int32)), (.ref b4), (.int (0 : Int32)), (.ref o0)])) rfl rfl (hb hby d5_23)).trans ?_
    show Steps p.tables e below (T4.setTop (mkF m 24 #[.val (.ref o0), .val (.int (8 : Int32)), .val (.ref b4)] [(.int z0), (.int (0 : Int32)), (.ref b4), (.int (0 : Int32)), (.ref o0)])) _
    refine XS.iloadN X4.here hx rfl (hb hby d5_24) rfl ?_
    show Steps p.tables e below (T4.setTop (mkF m 25 #[.val (.ref o0), .val (.int (8 : Int32)), .val (.ref b4)] [(.int (8 : Int32)), (.int z0), (.int (0 : Int32)), (.ref b4), (.int (0 : Int32)), (.ref o0)])) _
    exact Steps.refl _)
  have Z_8 : n0 ≤ h4.size := (Nat.le_trans Z0 E4.1)
  obtain ⟨_, _, ⟨T9, L9, k9, n9⟩, -, X9, ⟨Lc9, hQ9, l9, y9, z9⟩, st9⟩ := Jvm.LawKit.callS X4 hx (y := (⟨"java/lang/Math", "min", "(II)I"⟩ : MethodName)) hown (mvT hZ (hw _ (List.mem_of_getElem? (i := 32) rfl))) (mvT hZ (hw _ (List.mem_of_getElem? (i := 33) rfl))) (mvT hZ (hw _ (List.mem_of_getElem? (i := 26) rfl))) (mvT hZ (hw _ (List.mem_of_getElem? (i := 34) rfl))) (by decide) (backOf (W := 4) (rm6 l Z a0 hw [] z0 (8 : Int32) h4 n0 Z_8 ) hZ (hw _ (List.mem_of_getElem? (i := 34) rfl)) (hw _ (List.mem_of_getElem? (i := 26) rfl)) (by decide) (by decide)) (g := (mkF m 25 #[.val (.ref o0), .val (.int (8 : Int32)), .val (.ref b4)] [(.int (8 : Int32)), (.int z0), (.int (0 : Int32)), (.ref b4), (.int (0 : Int32)), (.ref o0)])) rfl (by rw [hml]; rfl) (argsL := [(.int z0), (.int (8 : Int32))]) (rest := [(.int (0 : Int32)), (.ref b4), (.int (0 : Int32)), (.ref o0)]) (lenOf pd_0 rfl) rfl (by show 2 * 0 + _ ≤ _; exact Nat.le_of_eq rfl) (hb hby d5_25) (fun _ _ => ⟨rfl, e4, (by decide : 1 + 0 ≤ _), (by decide : 8 + 0 ≤ _)⟩)
  dsimp only [Pt.U, Pt.locs, Pt.cells, Pt.slots] at X9 l9 y9 z9 st9 hQ9
  subst l9 y9 z9
  obtain ⟨rfl, N9, eh9⟩ := hQ9
  have N9' := Fr.app N0 N9
  have K10 : Steps p.tables e below _ (T9.setTop (mkF m 28 #[.val (.ref o0), .val (.int (8 : Int32)), .val (.ref b4)] [(.int (if (8 : Int32) < z0 then (8 : Int32) else z0)), (.int (0 : Int32)), (.ref b4), (.int (0 : Int32)), (.ref o0)])) := K7.trans (st9 _ (Steps.refl _))
  rw [show (if (8 : Int32) < z0 then (8 : Int32) else z0) = z0 from (if_neg (fun q => absurd (Int32.lt_trans q hz.2) (by decide)))] at K10
  obtain ⟨T11, h11, L11, X11, e11, N11, Kp11, V11, st11⟩ := cpA X9 hx hZ hown (hw _ (List.mem_of_getElem? (i := 35) rfl)) (hw _ (List.mem_of_getElem? (i := 38) rfl)) (hw _ (List.mem_of_getElem? (i := 36) rfl)) (hw _ (List.mem_of_getElem? (i := 37) rfl)) eh9 V_6 Vn4 (Or.inl ⟨rfl, rfl⟩) (us := ((List.range z0.toNatClampNeg).map fun jx => vs0.getD ((0 : Int32).toNatClampNeg + jx) (.long (0 : Int64)))) (sp := (0 : Int32)) (dp := (0 : Int32)) (nn := z0) (by decide) (by decide) hz.1 (by rw [show (0 : Int32).toNatClampNeg = 0 from rfl]; omega) (by rw [show (0 : Int32).toNatClampNeg = 0 from rfl, show (8 : Int32).toNatClampNeg = 8 from rfl]; omega) rfl (by rw [show (0 : Int32).toNatClampNeg = 0 from rfl]; simpa using hzn) N9' ge_b4 (g := (mkF m 28 #[.val (.ref o0), .val (.int (8 : Int32)), .val (.ref b4)] [(.int z0), (.int (0 : Int32)), (.ref b4), (.int (0 : Int32)), (.ref o0)])) rfl (by rw [hml]; rfl) (rest := []) rfl (hb hby d5_28) (by decide) (W := 0) (by show 2 * 0 + _ ≤ _; exact Nat.le_of_eq rfl) (by decide)
  have K12 : Steps p.tables e below _ (T11.setTop (mkF m 31 #[.val (.ref o0), .val (.int (8 : Int32)), .val (.ref b4)] [])) := K10.trans (st11 _ (Steps.refl _))
  have Vc11 : Arv Z h11 b4 k4 .long (8 : Int32) (own_cp 8 z0.toNatClampNeg vs0 (.long (0 : Int64))) (.long (0 : Int64)) := V11
  have K13 : Steps p.tables e below _ (T11.setTop (mkF m 32 #[.val (.ref o0), .val (.int (8 : Int32)), .val (.ref b4)] [(.ref b4)])) := K12.trans (by
    show Steps p.tables e below (T11.setTop (mkF m 31 #[.val (.ref o0), .val (.int (8 : Int32)), .val (.ref b4)] [])) _
    refine XS.aloadN X11.here hx rfl (hb hby d5_31) rfl rfl ?_
    show Steps p.tables e below (T11.setTop (mkF m 32 #[.val (.ref o0), .val (.int (8 : Int32)), .val (.ref b4)] [(.ref b4)])) _
    exact Steps.refl _)
  obtain ⟨fs, hr, hrun, hended, hW, hsame⟩ := X11.leave (v := some (.ref b4)) (fun h => by rw [Bd.returns] at h; cases h)
  have K_14 : Keep h0 h11 [] := ((Kp0.ext E4).trans Kp11 (allS (Or.inr sz_b4) all0))
  have E_15 : Exa Z h11 b4 "[J" := (A4.keep Kp11)
  refine ⟨_, _, K13.trans (retOut X11 hx Bd.returns rfl (Or.inr (Or.inr (Or.inr (Or.inr ⟨rfl, rfl, rfl⟩)))) (hb hby d5_32) hr), hrun, hended, _, _, rfl, ?_, ⟨_, rfl⟩, hW, hsame.mono (by decide) (by first | decide | omega)⟩
  show Q_rm5 Z o0 k0 z0 vs0 h0 n0 _ T11.heap _
  rw [e11]
  exact ⟨b4, k4, rfl, N11, K_14, E_15, Vc11, sz_b4⟩
theorem d7_0 : decode jdk_65_method_121_code 0 = .ok (.iload_n 1, 1) := by decide +kernel
theorem d7_1 : decode jdk_65_method_121_code 1 = .ok (.aload_n 0, 1) := by decide +kernel
theorem d7_2 : decode jdk_65_method_121_code 2 = .ok (.arraylength, 1) := by decide +kernel
theorem d7_3 : decode jdk_65_method_121_code 3 = .ok (.if_icmp .ne 11, 3) := by decide +kernel
theorem d7_14 : decode jdk_65_method_121_code 14 = .ok (.iload_n 1, 1) := by decide +kernel
theorem d7_15 : decode jdk_65_method_121_code 15 = .ok (.newarray .byte, 2) := by decide +kernel
theorem d7_17 : decode jdk_65_method_121_code 17 = .ok (.astore_n 2, 1) := by decide +kernel
theorem d7_18 : decode jdk_65_method_121_code 18 = .ok (.aload_n 0, 1) := by decide +kernel
theorem d7_19 : decode jdk_65_method_121_code 19 = .ok (.iconst 0, 1) := by decide +kernel
theorem d7_20 : decode jdk_65_method_121_code 20 = .ok (.aload_n 2, 1) := by decide +kernel
theorem d7_21 : decode jdk_65_method_121_code 21 = .ok (.iconst 0, 1) := by decide +kernel
theorem d7_22 : decode jdk_65_method_121_code 22 = .ok (.aload_n 0, 1) := by decide +kernel
theorem d7_23 : decode jdk_65_method_121_code 23 = .ok (.arraylength, 1) := by decide +kernel
theorem d7_24 : decode jdk_65_method_121_code 24 = .ok (.iload_n 1, 1) := by decide +kernel
theorem d7_25 : decode jdk_65_method_121_code 25 = .ok (.invokestatic 304, 3) := by decide +kernel
theorem d7_28 : decode jdk_65_method_121_code 28 = .ok (.invokestatic 150, 3) := by decide +kernel
theorem d7_31 : decode jdk_65_method_121_code 31 = .ok (.aload_n 2, 1) := by decide +kernel
def Q_rm7 (Z : State) (o0 : Addr) (k0 : ClassId) (z0 : Int32) (vs0 : List Value) (h0 : Heap) (n0 : Nat) (v : Option Value) (h : Heap) (L : List Loc) : Prop := ∃ b4 : Addr, ∃ k4 : ClassId, v = some (.ref b4) ∧ Fr n0 L ∧ Keep h0 h [] ∧ Exa Z h b4 "[B" ∧ Arv Z h b4 k4 .byte (8 : Int32) (own_cp 8 z0.toNatClampNeg vs0 (.int (0 : Int32))) (.int (0 : Int32)) ∧ h0.size ≤ b4
theorem pn_7 : plainName "java/util/Arrays" = true := by first | (simp [plainName, overriddenIn]; done) | decide +kernel
theorem ef_7c1_8Int32 (m : MethodId) (x0 : Addr) : entryFrame m #[(.ref x0), (.int (8 : Int32))] 3 = mkF m 0 #[.val (.ref x0), .val (.int (8 : Int32)), .unset] [] := by first | (simp [entryFrame, mkF, argsToLocals, Value.category]; done) | rfl
theorem d7_32 : decode jdk_65_method_121_code 32 = .ok (.areturn, 1) := by decide +kernel
set_option maxRecDepth 65536 in
set_option maxHeartbeats 40000000 in
theorem rm7 (l : Launch) (Z : State) (a0 : Array Value) (hw : ∀ d ∈ tables_1, d.before a0 Z = true) (ws : List Jvm.Cond) (o0 : Addr) (k0 : ClassId) (z0 : Int32) (vs0 : List Value) (h0 : Heap) (n0 : Nat) (Z0 : n0 ≤ h0.size) (V_o0 : Arv Z h0 o0 k0 .byte z0 vs0 (.int (0 : Int32))) (hz : ¬ (z0 < (0 : Int32)) ∧ z0 < (8 : Int32)) (hzn : z0.toNatClampNeg ≤ 8) :
    MetFree l (⟨"java/util/Arrays", "copyOf", "([BI)[B"⟩ : MethodName) (head1 (Jvm.Cond.code (⟨"java/util/Arrays", "copyOf", "([BI)[B"⟩ : MethodName) jdk_65_method_121_code 3 (some (.array .byte)) :: ws) ({ frames := 1, cells := 1, slots := 8, locals := 36 } : Room)) (fun a U => a = #[(.ref o0), (.int (8 : Int32))] ∧ Z.Warmed39 U.vm ∧ U.heap = h0) (fun _ _ _ _ _ => True) (fun _ U o U' => ∃ v L, o = .returned v ∧ Q_rm7 Z o0 k0 z0 vs0 h0 n0 v U'.heap L ∧ FrameEnd U o U' L ({ frames := 1, cells := 1, slots := 8, locals := 36 } : Room).cells ({ frames := 1, cells := 1, slots := 8, locals := 36 } : Room).slots) := by
  refine MetFree.of_bodySF (plainFor_of_name pn_7) hisR ?_
  intro p e s m args below meth c s₁ Bd hml0 hP hK
  obtain ⟨rfl, hZ, hh⟩ := hP
  have hx := Bd.exec
  have hby := Bd.bytes
  have hml : c.maxLocals = 3 := hml0
  have hown : s.vm.findClass "java/util/Arrays" = some m.cls := findClass_of_methodNamed Bd.named
  have hnm := (name_of_methodNamed Bd.named Bd.method).1
  have X0 : Stand p l e ({ frames := 1, cells := 1, slots := 8, locals := 36 } : Room) s m #[(.ref o0), (.int (8 : Int32))] below meth c s₁ [] 0 0 := Stand.of_body Bd
  have e0 : s₁.heap = h0 := by rw [← hh, Bd.state]; rfl
  have N0 := Fr.nil n0
  have Kp0 : Keep h0 h0 [] := Keep.refl _ _
  have K0 : Steps p.tables e below (s₁.setTop (entryFrame m #[(.ref o0), (.int (8 : Int32))] 3)) (s₁.setTop (mkF m 0 #[.val (.ref o0), .val (.int (8 : Int32)), .unset] [])) := castTop (ef_7c1_8Int32 m o0) (Steps.refl _)
  have K2 : Steps p.tables e below _ (s₁.setTop (mkF m 3 #[.val (.ref o0), .val (.int (8 : Int32)), .unset] [(.int z0), (.int (8 : Int32))])) := K0.trans (by
    show Steps p.tables e below (s₁.setTop (mkF m 0 #[.val (.ref o0), .val (.int (8 : Int32)), .unset] [])) _
    refine XS.iloadN X0.here hx rfl (hb hby d7_0) rfl ?_
    show Steps p.tables e below (s₁.setTop (mkF m 1 #[.val (.ref o0), .val (.int (8 : Int32)), .unset] [(.int (8 : Int32))])) _
    refine XS.aloadN X0.here hx rfl (hb hby d7_1) rfl rfl ?_
    show Steps p.tables e below (s₁.setTop (mkF m 2 #[.val (.ref o0), .val (.int (8 : Int32)), .unset] [(.ref o0), (.int (8 : Int32))])) _
    refine (own_len X0 hx hZ e0 V_o0 (g := (mkF m 2 #[.val (.ref o0), .val (.int (8 : Int32)), .unset] [(.ref o0), (.int (8 : Int32))])) rfl rfl (hb hby d7_2)).trans ?_
    show Steps p.tables e below (s₁.setTop (mkF m 3 #[.val (.ref o0), .val (.int (8 : Int32)), .unset] [(.int z0), (.int (8 : Int32))])) _
    exact Steps.refl _)
  have hc3_0 : ¬ ((8 : Int32) = z0) := (fun q => absurd hz.2 (by rw [← q]; decide))
  have K3 : Steps p.tables e below _ (s₁.setTop (mkF m 15 #[.val (.ref o0), .val (.int (8 : Int32)), .unset] [(.int (8 : Int32))])) := K2.trans (by
    show Steps p.tables e below (s₁.setTop (mkF m 3 #[.val (.ref o0), .val (.int (8 : Int32)), .unset] [(.int z0), (.int (8 : Int32))])) _
    refine XS.icmpYes X0.here hx rfl (pc0 := 3) (pc' := 14) rfl (hb hby d7_3) rfl (feq hc3_0).2 (by decide) (by decide) ?_
    show Steps p.tables e below (s₁.setTop (mkF m 14 #[.val (.ref o0), .val (.int (8 : Int32)), .unset] [])) _
    refine XS.iloadN X0.here hx rfl (hb hby d7_14) rfl ?_
    show Steps p.tables e below (s₁.setTop (mkF m 15 #[.val (.ref o0), .val (.int (8 : Int32)), .unset] [(.int (8 : Int32))])) _
    exact Steps.refl _)
  obtain ⟨T4, h4, k4, b4, X4, e4, E4, g4, V4, A4, st4⟩ := own_newB X0 hx hZ (hw _ (List.mem_of_getElem? (i := 14) rfl)) e0 (g := (mkF m 15 #[.val (.ref o0), .val (.int (8 : Int32)), .unset] [(.int (8 : Int32))])) rfl (hb hby d7_15) rfl (by decide) 8 (by decide) (by decide) (by decide) (by decide)
  have ne_o0_b4 : o0 ≠ b4 := Nat.ne_of_lt (Nat.lt_of_lt_of_le V_o0.lt (Nat.le_of_eq g4.symm))
  have ge_b4 : n0 ≤ b4 := Nat.le_trans Z0 (Nat.le_of_eq g4.symm)
  have sz_b4 : h0.size ≤ b4 := Nat.le_trans Kp0.1 (Nat.le_of_eq g4.symm)
  have K5 : Steps p.tables e below _ (T4.setTop (mkF m 17 #[.val (.ref o0), .val (.int (8 : Int32)), .unset] [(.ref b4)])) := K3.trans st4
  have Vn4 : Arv Z h4 b4 k4 .byte (8 : Int32) [(.int (0 : Int32)), (.int (0 : Int32)), (.int (0 : Int32)), (.int (0 : Int32)), (.int (0 : Int32)), (.int (0 : Int32)), (.int (0 : Int32)), (.int (0 : Int32))] (.int (0 : Int32)) := V4
  have V_6 : Arv Z h4 o0 k0 .byte z0 vs0 (.int (0 : Int32)) := (V_o0.ext E4)
  have K7 : Steps p.tables e below _ (T4.setTop (mkF m 25 #[.val (.ref o0), .val (.int (8 : Int32)), .val (.ref b4)] [(.int (8 : Int32)), (.int z0), (.int (0 : Int32)), (.ref b4), (.int (0 : Int32)), (.ref o0)])) := K5.trans (by
    show Steps p.tables e below (T4.setTop (mkF m 17 #[.val (.ref o0), .val (.int (8 : Int32)), .unset] [(.ref b4)])) _
    refine XS.astoreN X4.here hx rfl (hb hby d7_17) rfl rfl (l' := #[.val (.ref o0), .val (.int (8 : Int32)), .val (.ref b4)]) rfl ?_
    show Steps p.tables e below (T4.setTop (mkF m 18 #[.val (.ref o0), .val (.int (8 : Int32)), .val (.ref b4)] [])) _
    refine XS.aloadN X4.here hx rfl (hb hby d7_18) rfl rfl ?_
    show Steps p.tables e below (T4.setTop (mkF m 19 #[.val (.ref o0), .val (.int (8 : Int32)), .val (.ref b4)] [(.ref o0)])) _
    refine XS.iconst X4.here hx rfl (hb hby d7_19) ?_
    show Steps p.tables e below (T4.setTop (mkF m 20 #[.val (.ref o0), .val (.int (8 : Int32)), .val (.ref b4)] [(.int (0 : Int32)), (.ref o0)])) _
    refine XS.aloadN X4.here hx rfl (hb hby d7_20) rfl rfl ?_
    show Steps p.tables e below (T4.setTop (mkF m 21 #[.val (.ref o0), .val (.int (8 : Int32)), .val (.ref b4)] [(.ref b4), (.int (0 : Int32)), (.ref o0)])) _
    refine XS.iconst X4.here hx rfl (hb hby d7_21) ?_
    show Steps p.tables e below (T4.setTop (mkF m 22 #[.val (.ref o0), .val (.int (8 : Int32)), .val (.ref b4)] [(.int (0 : Int32)), (.ref b4), (.int (0 : Int32)), (.ref o0)])) _
    refine XS.aloadN X4.here hx rfl (hb hby d7_22) rfl rfl ?_
    show Steps p.tables e below (T4.setTop (mkF m 23 #[.val (.ref o0), .val (.int (8 : Int32)), .val (.ref b4)] [(.ref o0), (.int (0 : Int32)), (.ref b4), (.int (0 : Int32)), (.ref o0)])) _
    refine (own_len X4 hx hZ e4 V_6 (g := (mkF m 23 #[.val (.ref o0), .val (.int (8 : Int32)), .val (.ref b4)] [(.ref o0), (.int (0 : Int32)), (.ref b4), (.int (0 : Int32)), (.ref o0)])) rfl rfl (hb hby d7_23)).trans ?_
    show Steps p.tables e below (T4.setTop (mkF m 24 #[.val (.ref o0), .val (.int (8 : Int32)), .val (.ref b4)] [(.int z0), (.int (0 : Int32)), (.ref b4), (.int (0 : Int32)), (.ref o0)])) _
    refine XS.iloadN X4.here hx rfl (hb hby d7_24) rfl ?_
    show Steps p.tables e below (T4.setTop (mkF m 25 #[.val (.ref o0), .val (.int (8 : Int32)), .val (.ref b4)] [(.int (8 : Int32)), (.int z0), (.int (0 : Int32)), (.ref b4), (.int (0 : Int32)), (.ref o0)])) _
    exact Steps.refl _)
  have Z_8 : n0 ≤ h4.size := (Nat.le_trans Z0 E4.1)
  obtain ⟨_, _, ⟨T9, L9, k9, n9⟩, -, X9, ⟨Lc9, hQ9, l9, y9, z9⟩, st9⟩ := Jvm.LawKit.callS X4 hx (y := (⟨"java/lang/Math", "min", "(II)I"⟩ : MethodName)) hown (mvT hZ (hw _ (List.mem_of_getElem? (i := 32) rfl))) (mvT hZ (hw _ (List.mem_of_getElem? (i := 33) rfl))) (mvT hZ (hw _ (List.mem_of_getElem? (i := 26) rfl))) (mvT hZ (hw _ (List.mem_of_getElem? (i := 34) rfl))) (by decide) (backOf (W := 4) (rm6 l Z a0 hw [] z0 (8 : Int32) h4 n0 Z_8 ) hZ (hw _ (List.mem_of_getElem? (i := 34) rfl)) (hw _ (List.mem_of_getElem? (i := 26) rfl)) (by decide) (by decide)) (g := (mkF m 25 #[.val (.ref o0), .val (.int (8 : Int32)), .val (.ref b4)] [(.int (8 : Int32)), (.int z0), (.int (0 : Int32)), (.ref b4), (.int (0 : Int32)), (.ref o0)])) rfl (by rw [hml]; rfl) (argsL := [(.int z0), (.int (8 : Int32))]) (rest := [(.int (0 : Int32)), (.ref b4), (.int (0 : Int32)), (.ref o0)]) (lenOf pd_0 rfl) rfl (by show 2 * 0 + _ ≤ _; exact Nat.le_of_eq rfl) (hb hby d7_25) (fun _ _ => ⟨rfl, e4, (by decide : 1 + 0 ≤ _), (by decide : 8 + 0 ≤ _)⟩)
  dsimp only [Pt.U, Pt.locs, Pt.cells, Pt.slots] at X9 l9 y9 z9 st9 hQ9
  subst l9 y9 z9
  obtain ⟨rfl, N9, eh9⟩ := hQ9
  have N9' := Fr.app N0 N9
  have K10 : Steps p.tables e below _ (T9.setTop (mkF m 28 #[.val (.ref o0), .val (.int (8 : Int32)), .val (.ref b4)] [(.int (if (8 : Int32) < z0 then (8 : Int32) else z0)), (.int (0 : Int32)), (.ref b4), (.int (0 : Int32)), (.ref o0)])) := K7.trans (st9 _ (Steps.refl _))
  rw [show (if (8 : Int32) < z0 then (8 : Int32) else z0) = z0 from (if_neg (fun q => absurd (Int32.lt_trans q hz.2) (by decide)))] at K10
  obtain ⟨T11, h11, L11, X11, e11, N11, Kp11, V11, st11⟩ := cpA X9 hx hZ hown (hw _ (List.mem_of_getElem? (i := 35) rfl)) (hw _ (List.mem_of_getElem? (i := 38) rfl)) (hw _ (List.mem_of_getElem? (i := 36) rfl)) (hw _ (List.mem_of_getElem? (i := 37) rfl)) eh9 V_6 Vn4 (Or.inl ⟨rfl, rfl⟩) (us := ((List.range z0.toNatClampNeg).map fun jx => vs0.getD ((0 : Int32).toNatClampNeg + jx) (.int (0 : Int32)))) (sp := (0 : Int32)) (dp := (0 : Int32)) (nn := z0) (by decide) (by decide) hz.1 (by rw [show (0 : Int32).toNatClampNeg = 0 from rfl]; omega) (by rw [show (0 : Int32).toNatClampNeg = 0 from rfl, show (8 : Int32).toNatClampNeg = 8 from rfl]; omega) rfl (by rw [show (0 : Int32).toNatClampNeg = 0 from rfl]; simpa using hzn) N9' ge_b4 (g := (mkF m 28 #[.val (.ref o0), .val (.int (8 : Int32)), .val (.ref b4)] [(.int z0), (.int (0 : Int32)), (.ref b4), (.int (0 : Int32)), (.ref o0)])) rfl (by rw [hml]; rfl) (rest := []) rfl (hb hby d7_28) (by decide) (W := 0) (by show 2 * 0 + _ ≤ _; exact Nat.le_of_eq rfl) (by decide)
  have K12 : Steps p.tables e below _ (T11.setTop (mkF m 31 #[.val (.ref o0), .val (.int (8 : Int32)), .val (.ref b4)] [])) := K10.trans (st11 _ (Steps.refl _))
  have Vc11 : Arv Z h11 b4 k4 .byte (8 : Int32) (own_cp 8 z0.toNatClampNeg vs0 (.int (0 : Int32))) (.int (0 : Int32)) := V11
  have K13 : Steps p.tables e below _ (T11.setTop (mkF m 32 #[.val (.ref o0), .val (.int (8 : Int32)), .val (.ref b4)] [(.ref b4)])) := K12.trans (by
    show Steps p.tables e below (T11.setTop (mkF m 31 #[.val (.ref o0), .val (.int (8 : Int32)), .val (.ref b4)] [])) _
    refine XS.aloadN X11.here hx rfl (hb hby d7_31) rfl rfl ?_
    show Steps p.tables e below (T11.setTop (mkF m 32 #[.val (.ref o0), .val (.int (8 : Int32)), .val (.ref b4)] [(.ref b4)])) _
    exact Steps.refl _)
  obtain ⟨fs, hr, hrun, hended, hW, hsame⟩ := X11.leave (v := some (.ref b4)) (fun h => by rw [Bd.returns] at h; cases h)
  have K_14 : Keep h0 h11 [] := ((Kp0.ext E4).trans Kp11 (allS (Or.inr sz_b4) all0))
  have E_15 : Exa Z h11 b4 "[B" := (A4.keep Kp11)
  refine ⟨_, _, K13.trans (retOut X11 hx Bd.returns rfl (Or.inr (Or.inr (Or.inr (Or.inr ⟨rfl, rfl, rfl⟩)))) (hb hby d7_32) hr), hrun, hended, _, _, rfl, ?_, ⟨_, rfl⟩, hW, hsame.mono (by decide) (by first | decide | omega)⟩
  show Q_rm7 Z o0 k0 z0 vs0 h0 n0 _ T11.heap _
  rw [e11]
  exact ⟨b4, k4, rfl, N11, K_14, E_15, Vc11, sz_b4⟩
theorem d10_0 : decode jdk_41_method_11_code 0 = .ok (.iload_n 0, 1) := by decide +kernel
theorem d10_1 : decode jdk_41_method_11_code 1 = .ok (.ifCond .lt 8, 3) := by decide +kernel
theorem d10_4 : decode jdk_41_method_11_code 4 = .ok (.iload_n 0, 1) := by decide +kernel
theorem d10_5 : decode jdk_41_method_11_code 5 = .ok (.iload_n 1, 1) := by decide +kernel
theorem d10_6 : decode jdk_41_method_11_code 6 = .ok (.if_icmp .lt 10, 3) := by decide +kernel
theorem d10_16 : decode jdk_41_method_11_code 16 = .ok (.iload_n 0, 1) := by decide +kernel
def Q_rm10 (Z : State) (p0 : Int32) (p1 : Int32) (h0 : Heap) (n0 : Nat) (v : Option Value) (h : Heap) (L : List Loc) : Prop := v = some (.int p0) ∧ Fr n0 L ∧ h = h0
theorem pn_10 : plainName "jdk/internal/util/Preconditions" = true := by first | (simp [plainName, overriddenIn]; done) | decide +kernel
theorem ef_10n2 (m : MethodId) (x0 : Int32) (x1 : Int32) : entryFrame m #[(.int x0), (.int x1), .null] 3 = mkF m 0 #[.val (.int x0), .val (.int x1), .val .null] [] := by first | (simp [entryFrame, mkF, argsToLocals, Value.category]; done) | rfl
theorem d10_17 : decode jdk_41_method_11_code 17 = .ok (.ireturn, 1) := by decide +kernel
set_option maxRecDepth 65536 in
set_option maxHeartbeats 40000000 in
theorem rm10 (l : Launch) (Z : State) (a0 : Array Value) (hw : ∀ d ∈ tables_1, d.before a0 Z = true) (ws : List Jvm.Cond) (p0 : Int32) (p1 : Int32) (h0 : Heap) (n0 : Nat) (Z0 : n0 ≤ h0.size) (hi : ¬ (p0 < (0 : Int32))) (hj : p0 < p1) :
    MetFree l (⟨"jdk/internal/util/Preconditions", "checkIndex", "(IILjava/util/function/BiFunction;)I"⟩ : MethodName) (head1 (Jvm.Cond.code (⟨"jdk/internal/util/Preconditions", "checkIndex", "(IILjava/util/function/BiFunction;)I"⟩ : MethodName) jdk_41_method_11_code 3 (some .int) :: ws) ({ frames := 0, cells := 0, slots := 0, locals := 0 } : Room)) (fun a U => a = #[(.int p0), (.int p1), .null] ∧ Z.Warmed39 U.vm ∧ U.heap = h0) (fun _ _ _ _ _ => True) (fun _ U o U' => ∃ v L, o = .returned v ∧ Q_rm10 Z p0 p1 h0 n0 v U'.heap L ∧ FrameEnd U o U' L ({ frames := 0, cells := 0, slots := 0, locals := 0 } : Room).cells ({ frames := 0, cells := 0, slots := 0, locals := 0 } : Room).slots) := by
  refine MetFree.of_bodySF (plainFor_of_name pn_10) hisR ?_
  intro p e s m args below meth c s₁ Bd hml0 hP hK
  obtain ⟨rfl, hZ, hh⟩ := hP
  have hx := Bd.exec
  have hby := Bd.bytes
  have hml : c.maxLocals = 3 := hml0
  have hown : s.vm.findClass "jdk/internal/util/Preconditions" = some m.cls := findClass_of_methodNamed Bd.named
  have hnm := (name_of_methodNamed Bd.named Bd.method).1
  have X0 : Stand p l e ({ frames := 0, cells := 0, slots := 0, locals := 0 } : Room) s m #[(.int p0), (.int p1), .null] below meth c s₁ [] 0 0 := Stand.of_body Bd
  have e0 : s₁.heap = h0 := by rw [← hh, Bd.state]; rfl
  have N0 := Fr.nil n0
  have Kp0 : Keep h0 h0 [] := Keep.refl _ _
  have K0 : Steps p.tables e below (s₁.setTop (entryFrame m #[(.int p0), (.int p1), .null] 3)) (s₁.setTop (mkF m 0 #[.val (.int p0), .val (.int p1), .val .null] [])) := castTop (ef_10n2 m p0 p1) (Steps.refl _)
  have K2 : Steps p.tables e below _ (s₁.setTop (mkF m 1 #[.val (.int p0), .val (.int p1), .val .null] [(.int p0)])) := K0.trans (by
    show Steps p.tables e below (s₁.setTop (mkF m 0 #[.val (.int p0), .val (.int p1), .val .null] [])) _
    refine XS.iloadN X0.here hx rfl (hb hby d10_0) rfl ?_
    show Steps p.tables e below (s₁.setTop (mkF m 1 #[.val (.int p0), .val (.int p1), .val .null] [(.int p0)])) _
    exact Steps.refl _)
  have hc1_0 : ¬ (p0 < (0 : Int32)) := hi
  have K4 : Steps p.tables e below _ (s₁.setTop (mkF m 6 #[.val (.int p0), .val (.int p1), .val .null] [(.int p1), (.int p0)])) := K2.trans (by
    show Steps p.tables e below (s₁.setTop (mkF m 1 #[.val (.int p0), .val (.int p1), .val .null] [(.int p0)])) _
    refine XS.ifNo X0.here hx rfl (hb hby d10_1) rfl ((if0 _ _).trans (flt hc1_0).1) ?_
    show Steps p.tables e below (s₁.setTop (mkF m 4 #[.val (.int p0), .val (.int p1), .val .null] [])) _
    refine XS.iloadN X0.here hx rfl (hb hby d10_4) rfl ?_
    show Steps p.tables e below (s₁.setTop (mkF m 5 #[.val (.int p0), .val (.int p1), .val .null] [(.int p0)])) _
    refine XS.iloadN X0.here hx rfl (hb hby d10_5) rfl ?_
    show Steps p.tables e below (s₁.setTop (mkF m 6 #[.val (.int p0), .val (.int p1), .val .null] [(.int p1), (.int p0)])) _
    exact Steps.refl _)
  have hc6_2 : p0 < p1 := hj
  have K5 : Steps p.tables e below _ (s₁.setTop (mkF m 17 #[.val (.int p0), .val (.int p1), .val .null] [(.int p0)])) := K4.trans (by
    show Steps p.tables e below (s₁.setTop (mkF m 6 #[.val (.int p0), .val (.int p1), .val .null] [(.int p1), (.int p0)])) _
    refine XS.icmpYes X0.here hx rfl (pc0 := 6) (pc' := 16) rfl (hb hby d10_6) rfl (tlt hc6_2).1 (by decide) (by decide) ?_
    show Steps p.tables e below (s₁.setTop (mkF m 16 #[.val (.int p0), .val (.int p1), .val .null] [])) _
    refine XS.iloadN X0.here hx rfl (hb hby d10_16) rfl ?_
    show Steps p.tables e below (s₁.setTop (mkF m 17 #[.val (.int p0), .val (.int p1), .val .null] [(.int p0)])) _
    exact Steps.refl _)
  obtain ⟨fs, hr, hrun, hended, hW, hsame⟩ := X0.leave (v := some (.int p0)) (fun h => by rw [Bd.returns] at h; cases h)
  refine ⟨_, _, K5.trans (retOut X0 hx Bd.returns rfl (Or.inl ⟨rfl, Or.inl rfl, _, rfl⟩) (hb hby d10_17) hr), hrun, hended, _, _, rfl, ?_, ⟨_, rfl⟩, hW, hsame.mono (by decide) (by first | decide | omega)⟩
  show Q_rm10 Z p0 p1 h0 n0 _ s₁.heap _
  rw [e0]
  exact ⟨rfl, N0, rfl⟩
theorem d9_0 : decode jdk_31_method_17_code 0 = .ok (.iload_n 0, 1) := by decide +kernel
theorem d9_1 : decode jdk_31_method_17_code 1 = .ok (.iload_n 1, 1) := by decide +kernel
theorem d9_2 : decode jdk_31_method_17_code 2 = .ok (.aconst_null, 1) := by decide +kernel
theorem pd_1 : parseMethodDescriptor "(IILjava/util/function/BiFunction;)I" = some ⟨[.int, .int, (.object "java/util/function/BiFunction")], some .int⟩ := by decide +kernel
theorem d9_3 : decode jdk_31_method_17_code 3 = .ok (.invokestatic 105, 3) := by decide +kernel
def Q_rm9 (Z : State) (p0 : Int32) (p1 : Int32) (h0 : Heap) (n0 : Nat) (v : Option Value) (h : Heap) (L : List Loc) : Prop := v = some (.int p0) ∧ Fr n0 L ∧ h = h0
theorem pn_9 : plainName "java/util/Objects" = true := by first | (simp [plainName, overriddenIn]; done) | decide +kernel
theorem ef_9 (m : MethodId) (x0 : Int32) (x1 : Int32) : entryFrame m #[(.int x0), (.int x1)] 2 = mkF m 0 #[.val (.int x0), .val (.int x1)] [] := by first | (simp [entryFrame, mkF, argsToLocals, Value.category]; done) | rfl
theorem d9_6 : decode jdk_31_method_17_code 6 = .ok (.ireturn, 1) := by decide +kernel
set_option maxRecDepth 65536 in
set_option maxHeartbeats 40000000 in
theorem rm9 (l : Launch) (Z : State) (a0 : Array Value) (hw : ∀ d ∈ tables_1, d.before a0 Z = true) (ws : List Jvm.Cond) (p0 : Int32) (p1 : Int32) (h0 : Heap) (n0 : Nat) (Z0 : n0 ≤ h0.size) (hi : ¬ (p0 < (0 : Int32))) (hj : p0 < p1) :
    MetFree l (⟨"java/util/Objects", "checkIndex", "(II)I"⟩ : MethodName) (head1 (Jvm.Cond.code (⟨"java/util/Objects", "checkIndex", "(II)I"⟩ : MethodName) jdk_31_method_17_code 2 (some .int) :: ws) ({ frames := 1, cells := 0, slots := 0, locals := 14 } : Room)) (fun a U => a = #[(.int p0), (.int p1)] ∧ Z.Warmed39 U.vm ∧ U.heap = h0) (fun _ _ _ _ _ => True) (fun _ U o U' => ∃ v L, o = .returned v ∧ Q_rm9 Z p0 p1 h0 n0 v U'.heap L ∧ FrameEnd U o U' L ({ frames := 1, cells := 0, slots := 0, locals := 14 } : Room).cells ({ frames := 1, cells := 0, slots := 0, locals := 14 } : Room).slots) := by
  refine MetFree.of_bodySF (plainFor_of_name pn_9) hisR ?_
  intro p e s m args below meth c s₁ Bd hml0 hP hK
  obtain ⟨rfl, hZ, hh⟩ := hP
  have hx := Bd.exec
  have hby := Bd.bytes
  have hml : c.maxLocals = 2 := hml0
  have hown : s.vm.findClass "java/util/Objects" = some m.cls := findClass_of_methodNamed Bd.named
  have hnm := (name_of_methodNamed Bd.named Bd.method).1
  have X0 : Stand p l e ({ frames := 1, cells := 0, slots := 0, locals := 14 } : Room) s m #[(.int p0), (.int p1)] below meth c s₁ [] 0 0 := Stand.of_body Bd
  have e0 : s₁.heap = h0 := by rw [← hh, Bd.state]; rfl
  have N0 := Fr.nil n0
  have Kp0 : Keep h0 h0 [] := Keep.refl _ _
  have K0 : Steps p.tables e below (s₁.setTop (entryFrame m #[(.int p0), (.int p1)] 2)) (s₁.setTop (mkF m 0 #[.val (.int p0), .val (.int p1)] [])) := castTop (ef_9 m p0 p1) (Steps.refl _)
  have K1 : Steps p.tables e below _ (s₁.setTop (mkF m 3 #[.val (.int p0), .val (.int p1)] [.null, (.int p1), (.int p0)])) := K0.trans (by
    show Steps p.tables e below (s₁.setTop (mkF m 0 #[.val (.int p0), .val (.int p1)] [])) _
    refine XS.iloadN X0.here hx rfl (hb hby d9_0) rfl ?_
    show Steps p.tables e below (s₁.setTop (mkF m 1 #[.val (.int p0), .val (.int p1)] [(.int p0)])) _
    refine XS.iloadN X0.here hx rfl (hb hby d9_1) rfl ?_
    show Steps p.tables e below (s₁.setTop (mkF m 2 #[.val (.int p0), .val (.int p1)] [(.int p1), (.int p0)])) _
    refine XS.aconstNull X0.here hx rfl (hb hby d9_2) ?_
    show Steps p.tables e below (s₁.setTop (mkF m 3 #[.val (.int p0), .val (.int p1)] [.null, (.int p1), (.int p0)])) _
    exact Steps.refl _)
  obtain ⟨_, _, ⟨T2, L2, k2, n2⟩, -, X2, ⟨Lc2, hQ2, l2, y2, z2⟩, st2⟩ := Jvm.LawKit.callS X0 hx (y := (⟨"jdk/internal/util/Preconditions", "checkIndex", "(IILjava/util/function/BiFunction;)I"⟩ : MethodName)) hown (mvT hZ (hw _ (List.mem_of_getElem? (i := 51) rfl))) (mvT hZ (hw _ (List.mem_of_getElem? (i := 52) rfl))) (mvT hZ (hw _ (List.mem_of_getElem? (i := 53) rfl))) (mvT hZ (hw _ (List.mem_of_getElem? (i := 54) rfl))) (by decide) (backOf (W := 0) (rm10 l Z a0 hw [] p0 p1 h0 n0 Z0 (hi) (hj)) hZ (hw _ (List.mem_of_getElem? (i := 54) rfl)) (hw _ (List.mem_of_getElem? (i := 53) rfl)) (by decide) (by decide)) (g := (mkF m 3 #[.val (.int p0), .val (.int p1)] [.null, (.int p1), (.int p0)])) rfl (by rw [hml]; rfl) (argsL := [(.int p0), (.int p1), .null]) (rest := []) (lenOf pd_1 rfl) rfl (by show 2 * 0 + _ ≤ _; exact Nat.le_of_eq rfl) (hb hby d9_3) (fun _ _ => ⟨rfl, e0, (by decide : 0 + 0 ≤ _), (by decide : 0 + 0 ≤ _)⟩)
  dsimp only [Pt.U, Pt.locs, Pt.cells, Pt.slots] at X2 l2 y2 z2 st2 hQ2
  subst l2 y2 z2
  obtain ⟨rfl, N2, eh2⟩ := hQ2
  have N2' := Fr.app N0 N2
  have K3 : Steps p.tables e below _ (T2.setTop (mkF m 6 #[.val (.int p0), .val (.int p1)] [(.int p0)])) := K1.trans (st2 _ (Steps.refl _))
  obtain ⟨fs, hr, hrun, hended, hW, hsame⟩ := X2.leave (v := some (.int p0)) (fun h => by rw [Bd.returns] at h; cases h)
  refine ⟨_, _, K3.trans (retOut X2 hx Bd.returns rfl (Or.inl ⟨rfl, Or.inl rfl, _, rfl⟩) (hb hby d9_6) hr), hrun, hended, _, _, rfl, ?_, ⟨_, rfl⟩, hW, hsame.mono (by decide) (by first | decide | omega)⟩
  show Q_rm9 Z p0 p1 h0 n0 _ T2.heap _
  rw [eh2]
  exact ⟨rfl, N2', rfl⟩
theorem d8_0 : decode prog_13_method_3_code 0 = .ok (.aload_n 0, 1) := by decide +kernel
theorem d8_1 : decode prog_13_method_3_code 1 = .ok (.getfield 16, 3) := by decide +kernel
theorem d8_4 : decode prog_13_method_3_code 4 = .ok (.iload_n 1, 1) := by decide +kernel
theorem d8_5 : decode prog_13_method_3_code 5 = .ok (.aload_n 0, 1) := by decide +kernel
theorem d8_6 : decode prog_13_method_3_code 6 = .ok (.getfield 20, 3) := by decide +kernel
theorem d8_9 : decode prog_13_method_3_code 9 = .ok (.invokestatic 24, 3) := by decide +kernel
theorem d8_12 : decode prog_13_method_3_code 12 = .ok (.baload, 1) := by decide +kernel
theorem d8_13 : decode prog_13_method_3_code 13 = .ok (.iconst 1, 1) := by decide +kernel
theorem d8_14 : decode prog_13_method_3_code 14 = .ok (.iand, 1) := by decide +kernel
theorem d8_15 : decode prog_13_method_3_code 15 = .ok (.ifCond .eq 7, 3) := by decide +kernel
theorem d8_22 : decode prog_13_method_3_code 22 = .ok (.iconst 0, 1) := by decide +kernel
theorem d8_18 : decode prog_13_method_3_code 18 = .ok (.iconst 1, 1) := by decide +kernel
theorem d8_19 : decode prog_13_method_3_code 19 = .ok (.goto 4, 3) := by decide +kernel
def Q_rm8 (Z : State) (o0 : Addr) (p1 : Int32) (ea : Addr) (ke : ClassId) (ze : Int32) (ve : List Value) (w : Int32) (n : Int32) (h0 : Heap) (n0 : Nat) (v : Option Value) (h : Heap) (L : List Loc) : Prop := v = some (.int ((if (w &&& (1 : Int32)) = (0 : Int32) then (0 : Int32) else (1 : Int32)) &&& 1)) ∧ Fr n0 L ∧ h = h0
theorem pn_8 : plainName "com/example/spanfold/spanfold/RangeList" = true := by first | (simp [plainName, overriddenIn]; done) | decide +kernel
theorem ef_8 (m : MethodId) (x0 : Addr) (x1 : Int32) : entryFrame m #[(.ref x0), (.int x1)] 2 = mkF m 0 #[.val (.ref x0), .val (.int x1)] [] := by first | (simp [entryFrame, mkF, argsToLocals, Value.category]; done) | rfl
theorem d8_23 : decode prog_13_method_3_code 23 = .ok (.ireturn, 1) := by decide +kernel
set_option maxRecDepth 65536 in
set_option maxHeartbeats 40000000 in
theorem rm8 (l : Launch) (Z : State) (a0 : Array Value) (hw : ∀ d ∈ tables_1, d.before a0 Z = true) (ws : List Jvm.Cond) (o0 : Addr) (p1 : Int32) (ea : Addr) (ke : ClassId) (ze : Int32) (ve : List Value) (w : Int32) (n : Int32) (h0 : Heap) (n0 : Nat) (Z0 : n0 ≤ h0.size) (F_ends_o0 : Fld Z h0 o0 "com/example/spanfold/spanfold/RangeList" "ends" "[B" (.ref ea)) (F_size_o0 : Fld Z h0 o0 "com/example/spanfold/spanfold/RangeList" "size" "I" (.int n)) (V_ea : Arv Z h0 ea ke .byte ze ve (.int (0 : Int32))) (hi : ¬ (p1 < (0 : Int32))) (hj : p1 < n) (hz : p1 < ze) (hat : ve.getD p1.toNatClampNeg (.int (0 : Int32)) = (.int w)) :
    MetFree l (⟨"com/example/spanfold/spanfold/RangeList", "hasFrom", "(I)Z"⟩ : MethodName) (head1 (Jvm.Cond.code (⟨"com/example/spanfold/spanfold/RangeList", "hasFrom", "(I)Z"⟩ : MethodName) prog_13_method_3_code 2 (some .boolean) :: ws) ({ frames := 2, cells := 0, slots := 0, locals := 28 } : Room)) (fun a U => a = #[(.ref o0), (.int p1)] ∧ Z.Warmed39 U.vm ∧ U.heap = h0) (fun _ _ _ _ _ => True) (fun _ U o U' => ∃ v L, o = .returned v ∧ Q_rm8 Z o0 p1 ea ke ze ve w n h0 n0 v U'.heap L ∧ FrameEnd U o U' L ({ frames := 2, cells := 0, slots := 0, locals := 28 } : Room).cells ({ frames := 2, cells := 0, slots := 0, locals := 28 } : Room).slots) := by
  refine MetFree.of_bodySF (plainFor_of_name pn_8) hisR ?_
  intro p e s m args below meth c s₁ Bd hml0 hP hK
  obtain ⟨rfl, hZ, hh⟩ := hP
  have hx := Bd.exec
  have hby := Bd.bytes
  have hml : c.maxLocals = 2 := hml0
  have hown : s.vm.findClass "com/example/spanfold/spanfold/RangeList" = some m.cls := findClass_of_methodNamed Bd.named
  have hnm := (name_of_methodNamed Bd.named Bd.method).1
  have X0 : Stand p l e ({ frames := 2, cells := 0, slots := 0, locals := 28 } : Room) s m #[(.ref o0), (.int p1)] below meth c s₁ [] 0 0 := Stand.of_body Bd
  have e0 : s₁.heap = h0 := by rw [← hh, Bd.state]; rfl
  have N0 := Fr.nil n0
  have Kp0 : Keep h0 h0 [] := Keep.refl _ _
  have K0 : Steps p.tables e below (s₁.setTop (entryFrame m #[(.ref o0), (.int p1)] 2)) (s₁.setTop (mkF m 0 #[.val (.ref o0), .val (.int p1)] [])) := castTop (ef_8 m o0 p1) (Steps.refl _)
  have K1 : Steps p.tables e below _ (s₁.setTop (mkF m 1 #[.val (.ref o0), .val (.int p1)] [(.ref o0)])) := K0.trans (by
    show Steps p.tables e below (s₁.setTop (mkF m 0 #[.val (.ref o0), .val (.int p1)] [])) _
    refine XS.aloadN X0.here hx rfl (hb hby d8_0) rfl rfl ?_
    show Steps p.tables e below (s₁.setTop (mkF m 1 #[.val (.ref o0), .val (.int p1)] [(.ref o0)])) _
    exact Steps.refl _)
  obtain ⟨T2, X2, e2, st2⟩ := getF X0 hx hZ hown (host := "") (Or.inl (hw _ (List.mem_of_getElem? (i := 15) rfl))) Via.refl e0 F_ends_o0 (g := (mkF m 1 #[.val (.ref o0), .val (.int p1)] [(.ref o0)])) rfl rfl (hb hby d8_1)
  have K3 : Steps p.tables e below _ (T2.setTop (mkF m 4 #[.val (.ref o0), .val (.int p1)] [(.ref ea)])) := K1.trans (st2 _ (Steps.refl _))
  have K4 : Steps p.tables e below _ (T2.setTop (mkF m 6 #[.val (.ref o0), .val (.int p1)] [(.ref o0), (.int p1), (.ref ea)])) := K3.trans (by
    show Steps p.tables e below (T2.setTop (mkF m 4 #[.val (.ref o0), .val (.int p1)] [(.ref ea)])) _
    refine XS.iloadN X2.here hx rfl (hb hby d8_4) rfl ?_
    show Steps p.tables e below (T2.setTop (mkF m 5 #[.val (.ref o0), .val (.int p1)] [(.int p1), (.ref ea)])) _
    refine XS.aloadN X2.here hx rfl (hb hby d8_5) rfl rfl ?_
    show Steps p.tables e below (T2.setTop (mkF m 6 #[.val (.ref o0), .val (.int p1)] [(.ref o0), (.int p1), (.ref ea)])) _
    exact Steps.refl _)
  obtain ⟨T5, X5, e5, st5⟩ := getF X2 hx hZ hown (host := "") (Or.inl (hw _ (List.mem_of_getElem? (i := 22) rfl))) Via.refl e2 F_size_o0 (g := (mkF m 6 #[.val (.ref o0), .val (.int p1)] [(.ref o0), (.int p1), (.ref ea)])) rfl rfl (hb hby d8_6)
  have K6 : Steps p.tables e below _ (T5.setTop (mkF m 9 #[.val (.ref o0), .val (.int p1)] [(.int n), (.int p1), (.ref ea)])) := K4.trans (st5 _ (Steps.refl _))
  obtain ⟨_, _, ⟨T7, L7, k7, n7⟩, -, X7, ⟨Lc7, hQ7, l7, y7, z7⟩, st7⟩ := Jvm.LawKit.callS X5 hx (y := (⟨"java/util/Objects", "checkIndex", "(II)I"⟩ : MethodName)) hown (mvT hZ (hw _ (List.mem_of_getElem? (i := 47) rfl))) (mvT hZ (hw _ (List.mem_of_getElem? (i := 48) rfl))) (mvT hZ (hw _ (List.mem_of_getElem? (i := 49) rfl))) (mvT hZ (hw _ (List.mem_of_getElem? (i := 50) rfl))) (by decide) (backOf (W := 1) (rm9 l Z a0 hw [] p1 n h0 n0 Z0 (hi) (hj)) hZ (hw _ (List.mem_of_getElem? (i := 50) rfl)) (hw _ (List.mem_of_getElem? (i := 49) rfl)) (by decide) (by decide)) (g := (mkF m 9 #[.val (.ref o0), .val (.int p1)] [(.int n), (.int p1), (.ref ea)])) rfl (by rw [hml]; rfl) (argsL := [(.int p1), (.int n)]) (rest := [(.ref ea)]) (lenOf pd_0 rfl) rfl (by show 2 * 0 + _ ≤ _; exact Nat.le_of_eq rfl) (hb hby d8_9) (fun _ _ => ⟨rfl, e5, (by decide : 0 + 0 ≤ _), (by decide : 0 + 0 ≤ _)⟩)
  dsimp only [Pt.U, Pt.locs, Pt.cells, Pt.slots] at X7 l7 y7 z7 st7 hQ7
  subst l7 y7 z7
  obtain ⟨rfl, N7, eh7⟩ := hQ7
  have N7' := Fr.app N0 N7
  have K8 : Steps p.tables e below _ (T7.setTop (mkF m 12 #[.val (.ref o0), .val (.int p1)] [(.int p1), (.ref ea)])) := K6.trans (st7 _ (Steps.refl _))
  have K9 : Steps p.tables e below _ (T7.setTop (mkF m 15 #[.val (.ref o0), .val (.int p1)] [(.int (w &&& (1 : Int32)))])) := K8.trans (by
    show Steps p.tables e below (T7.setTop (mkF m 12 #[.val (.ref o0), .val (.int p1)] [(.int p1), (.ref ea)])) _
    refine (own_ldB X7 hx hZ eh7 V_ea (j := p1) ⟨hi, hz⟩ hat (g := (mkF m 12 #[.val (.ref o0), .val (.int p1)] [(.int p1), (.ref ea)])) rfl rfl (hb hby d8_12)).trans ?_
    show Steps p.tables e below (T7.setTop (mkF m 13 #[.val (.ref o0), .val (.int p1)] [(.int w)])) _
    refine XS.iconst X7.here hx rfl (hb hby d8_13) ?_
    show Steps p.tables e below (T7.setTop (mkF m 14 #[.val (.ref o0), .val (.int p1)] [(.int (1 : Int32)), (.int w)])) _
    refine XS.iand X7.here hx rfl (hb hby d8_14) rfl ?_
    show Steps p.tables e below (T7.setTop (mkF m 15 #[.val (.ref o0), .val (.int p1)] [(.int (w &&& (1 : Int32)))])) _
    exact Steps.refl _)
  obtain ⟨v10_0, hv10_0, S10⟩ : ∃ (v10_0 : Int32), (if (w &&& (1 : Int32)) = (0 : Int32) then (0 : Int32) else (1 : Int32)) = v10_0 ∧ Steps p.tables e below (T7.setTop (mkF m 15 #[.val (.ref o0), .val (.int p1)] [(.int (w &&& (1 : Int32)))])) (T7.setTop (mkF m 23 #[.val (.ref o0), .val (.int p1)] [(.int v10_0)])) := by
    have R10 : Steps p.tables e below (T7.setTop (mkF m 15 #[.val (.ref o0), .val (.int p1)] [(.int (w &&& (1 : Int32)))])) (T7.setTop (mkF m 15 #[.val (.ref o0), .val (.int p1)] [(.int (w &&& (1 : Int32)))])) := Steps.refl _
    by_cases hc15 : (w &&& (1 : Int32)) = (0 : Int32)
    · have K11 : Steps p.tables e below _ (T7.setTop (mkF m 23 #[.val (.ref o0), .val (.int p1)] [(.int (0 : Int32))])) := R10.trans (by
        show Steps p.tables e below (T7.setTop (mkF m 15 #[.val (.ref o0), .val (.int p1)] [(.int (w &&& (1 : Int32)))])) _
        refine XS.ifYes X7.here hx rfl (pc0 := 15) (pc' := 22) rfl (hb hby d8_15) rfl ((if0 _ _).trans (teq hc15).1) (by decide) (by decide) ?_
        show Steps p.tables e below (T7.setTop (mkF m 22 #[.val (.ref o0), .val (.int p1)] [])) _
        refine XS.iconst X7.here hx rfl (hb hby d8_22) ?_
        show Steps p.tables e below (T7.setTop (mkF m 23 #[.val (.ref o0), .val (.int p1)] [(.int (0 : Int32))])) _
        exact Steps.refl _)
      exact ⟨(0 : Int32), (by rw [if_pos hc15]), K11⟩
    · have K12 : Steps p.tables e below _ (T7.setTop (mkF m 23 #[.val (.ref o0), .val (.int p1)] [(.int (1 : Int32))])) := R10.trans (by
        show Steps p.tables e below (T7.setTop (mkF m 15 #[.val (.ref o0), .val (.int p1)] [(.int (w &&& (1 : Int32)))])) _
        refine XS.ifNo X7.here hx rfl (hb hby d8_15) rfl ((if0 _ _).trans (feq hc15).1) ?_
        show Steps p.tables e below (T7.setTop (mkF m 18 #[.val (.ref o0), .val (.int p1)] [])) _
        refine XS.iconst X7.here hx rfl (hb hby d8_18) ?_
        show Steps p.tables e below (T7.setTop (mkF m 19 #[.val (.ref o0), .val (.int p1)] [(.int (1 : Int32))])) _
        refine XS.goto X7.here hx rfl (pc0 := 19) (pc' := 23) rfl (hb hby d8_19) (by decide) (by decide) ?_
        show Steps p.tables e below (T7.setTop (mkF m 23 #[.val (.ref o0), .val (.int p1)] [(.int (1 : Int32))])) _
        exact Steps.refl _)
      exact ⟨(1 : Int32), (by rw [if_neg hc15]), K12⟩
  have K13 := K9.trans S10
  subst hv10_0
  obtain ⟨fs, hr, hrun, hended, hW, hsame⟩ := X7.leave (v := some (.int ((if (w &&& (1 : Int32)) = (0 : Int32) then (0 : Int32) else (1 : Int32)) &&& 1))) (fun h => by rw [Bd.returns] at h; cases h)
  refine ⟨_, _, K13.trans (retN X7 hx (t := .boolean) Bd.returns (by simp) (hb hby d8_23) hr), hrun, hended, _, _, rfl, ?_, ⟨_, rfl⟩, hW, hsame.mono (by decide) (by first | decide | omega)⟩
  show Q_rm8 Z o0 p1 ea ke ze ve w n h0 n0 _ T7.heap _
  rw [eh7]
  exact ⟨rfl, N7', rfl⟩
theorem d3_0 : decode prog_13_method_7_code 0 = .ok (.aload_n 0, 1) := by decide +kernel
theorem d3_1 : decode prog_13_method_7_code 1 = .ok (.getfield 20, 3) := by decide +kernel
theorem d3_4 : decode prog_13_method_7_code 4 = .ok (.aload_n 0, 1) := by decide +kernel
theorem d3_5 : decode prog_13_method_7_code 5 = .ok (.getfield 7, 3) := by decide +kernel
theorem d3_8 : decode prog_13_method_7_code 8 = .ok (.arraylength, 1) := by decide +kernel
theorem d3_9 : decode prog_13_method_7_code 9 = .ok (.if_icmp .ne 55, 3) := by decide +kernel
theorem d3_64 : decode prog_13_method_7_code 64 = .ok (.aload_n 0, 1) := by decide +kernel
theorem d3_65 : decode prog_13_method_7_code 65 = .ok (.getfield 7, 3) := by decide +kernel
theorem d3_68 : decode prog_13_method_7_code 68 = .ok (.aload_n 0, 1) := by decide +kernel
theorem d3_69 : decode prog_13_method_7_code 69 = .ok (.getfield 20, 3) := by decide +kernel
theorem d3_72 : decode prog_13_method_7_code 72 = .ok (.iload_n 1, 1) := by decide +kernel
theorem d3_73 : decode prog_13_method_7_code 73 = .ok (.ifCond .eq 7, 3) := by decide +kernel
theorem d3_80 : decode prog_13_method_7_code 80 = .ok (.lconst 0, 1) := by decide +kernel
theorem d3_76 : decode prog_13_method_7_code 76 = .ok (.lload_n 2, 1) := by decide +kernel
theorem d3_77 : decode prog_13_method_7_code 77 = .ok (.goto 4, 3) := by decide +kernel
theorem d3_81 : decode prog_13_method_7_code 81 = .ok (.lastore, 1) := by decide +kernel
theorem d3_82 : decode prog_13_method_7_code 82 = .ok (.aload_n 0, 1) := by decide +kernel
theorem d3_83 : decode prog_13_method_7_code 83 = .ok (.getfield 13, 3) := by decide +kernel
theorem d3_86 : decode prog_13_method_7_code 86 = .ok (.aload_n 0, 1) := by decide +kernel
theorem d3_87 : decode prog_13_method_7_code 87 = .ok (.getfield 20, 3) := by decide +kernel
theorem d3_90 : decode prog_13_method_7_code 90 = .ok (.iload 4, 2) := by decide +kernel
theorem d3_92 : decode prog_13_method_7_code 92 = .ok (.ifCond .eq 8, 3) := by decide +kernel
theorem d3_100 : decode prog_13_method_7_code 100 = .ok (.lconst 0, 1) := by decide +kernel
theorem d3_95 : decode prog_13_method_7_code 95 = .ok (.lload 5, 2) := by decide +kernel
theorem d3_97 : decode prog_13_method_7_code 97 = .ok (.goto 4, 3) := by decide +kernel
theorem d3_101 : decode prog_13_method_7_code 101 = .ok (.lastore, 1) := by decide +kernel
theorem d3_102 : decode prog_13_method_7_code 102 = .ok (.aload_n 0, 1) := by decide +kernel
theorem d3_103 : decode prog_13_method_7_code 103 = .ok (.getfield 16, 3) := by decide +kernel
theorem d3_106 : decode prog_13_method_7_code 106 = .ok (.aload_n 0, 1) := by decide +kernel
theorem d3_107 : decode prog_13_method_7_code 107 = .ok (.getfield 20, 3) := by decide +kernel
theorem d3_110 : decode prog_13_method_7_code 110 = .ok (.iload_n 1, 1) := by decide +kernel
theorem d3_111 : decode prog_13_method_7_code 111 = .ok (.ifCond .eq 7, 3) := by decide +kernel
theorem d3_118 : decode prog_13_method_7_code 118 = .ok (.iconst 0, 1) := by decide +kernel
theorem d3_114 : decode prog_13_method_7_code 114 = .ok (.iconst 1, 1) := by decide +kernel
theorem d3_115 : decode prog_13_method_7_code 115 = .ok (.goto 4, 3) := by decide +kernel
theorem d3_119 : decode prog_13_method_7_code 119 = .ok (.iload 4, 2) := by decide +kernel
theorem d3_121 : decode prog_13_method_7_code 121 = .ok (.ifCond .eq 7, 3) := by decide +kernel
theorem d3_128 : decode prog_13_method_7_code 128 = .ok (.iconst 0, 1) := by decide +kernel
theorem d3_124 : decode prog_13_method_7_code 124 = .ok (.iconst 2, 1) := by decide +kernel
theorem d3_125 : decode prog_13_method_7_code 125 = .ok (.goto 4, 3) := by decide +kernel
theorem d3_129 : decode prog_13_method_7_code 129 = .ok (.ior, 1) := by decide +kernel
theorem d3_130 : decode prog_13_method_7_code 130 = .ok (.i2b, 1) := by decide +kernel
theorem d3_131 : decode prog_13_method_7_code 131 = .ok (.bastore, 1) := by decide +kernel
theorem d3_132 : decode prog_13_method_7_code 132 = .ok (.aload_n 0, 1) := by decide +kernel
theorem d3_133 : decode prog_13_method_7_code 133 = .ok (.dup, 1) := by decide +kernel
theorem d3_134 : decode prog_13_method_7_code 134 = .ok (.getfield 20, 3) := by decide +kernel
theorem d3_137 : decode prog_13_method_7_code 137 = .ok (.iconst 1, 1) := by decide +kernel
theorem d3_138 : decode prog_13_method_7_code 138 = .ok (.iadd, 1) := by decide +kernel
theorem d3_139 : decode prog_13_method_7_code 139 = .ok (.putfield 20, 3) := by decide +kernel
def Q_rm3n (Z : State) (o0 : Addr) (p1 : Int32) (q2 : Int64) (p3 : Int32) (q4 : Int64) (fa : Addr) (ta : Addr) (ea : Addr) (kf : ClassId) (kt : ClassId) (ke : ClassId) (z : Int32) (vf : List Value) (vt : List Value) (ve : List Value) (n : Int32) (i : Nat) (h0 : Heap) (n0 : Nat) (v : Option Value) (h : Heap) (L : List Loc) : Prop := v = none ∧ Fr n0 L ∧ Keep h0 h [o0, fa, ta, ea] ∧ Exa Z h o0 "com/example/spanfold/spanfold/RangeList" ∧ Fld Z h o0 "com/example/spanfold/spanfold/RangeList" "froms" "[J" (.ref fa) ∧ Fld Z h o0 "com/example/spanfold/spanfold/RangeList" "tos" "[J" (.ref ta) ∧ Fld Z h o0 "com/example/spanfold/spanfold/RangeList" "ends" "[B" (.ref ea) ∧ Fld Z h o0 "com/example/spanfold/spanfold/RangeList" "size" "I" (.int (n + (1 : Int32))) ∧ Arv Z h fa kf .long z (vf.set i (.long (if p1 = (0 : Int32) then (0 : Int64) else q2))) (.long (0 : Int64)) ∧ Arv Z h ta kt .long z (vt.set i (.long (if p3 = (0 : Int32) then (0 : Int64) else q4))) (.long (0 : Int64)) ∧ Arv Z h ea ke .byte z (ve.set i (.int ((((if p1 = (0 : Int32) then (0 : Int32) else (1 : Int32)) ||| (if p3 = (0 : Int32) then (0 : Int32) else (2 : Int32))).toInt8.toInt32).toInt8.toInt32))) (.int (0 : Int32))
theorem pn_3 : plainName "com/example/spanfold/spanfold/RangeList" = true := by first | (simp [plainName, overriddenIn]; done) | decide +kernel
theorem ef_3 (m : MethodId) (x0 : Addr) (x1 : Int32) (x2 : Int64) (x3 : Int32) (x4 : Int64) : entryFrame m #[(.ref x0), (.int x1), (.long x2), (.int x3), (.long x4)] 8 = mkF m 0 #[.val (.ref x0), .val (.int x1), .val (.long x2), .second, .val (.int x3), .val (.long x4), .second, .unset] [] := by first | (simp [entryFrame, mkF, argsToLocals, Value.category]; done) | rfl
theorem d3_142 : decode prog_13_method_7_code 142 = .ok (.return_, 1) := by decide +kernel
set_option maxRecDepth 65536 in
set_option maxHeartbeats 40000000 in
theorem rm3n (l : Launch) (Z : State) (a0 : Array Value) (hw : ∀ d ∈ tables_1, d.before a0 Z = true) (ws : List Jvm.Cond) (o0 : Addr) (p1 : Int32) (q2 : Int64) (p3 : Int32) (q4 : Int64) (fa : Addr) (ta : Addr) (ea : Addr) (kf : ClassId) (kt : ClassId) (ke : ClassId) (z : Int32) (vf : List Value) (vt : List Value) (ve : List Value) (n : Int32) (i : Nat) (h0 : Heap) (n0 : Nat) (Z0 : n0 ≤ h0.size) (E_o0 : Exa Z h0 o0 "com/example/spanfold/spanfold/RangeList") (F_froms_o0 : Fld Z h0 o0 "com/example/spanfold/spanfold/RangeList" "froms" "[J" (.ref fa)) (F_tos_o0 : Fld Z h0 o0 "com/example/spanfold/spanfold/RangeList" "tos" "[J" (.ref ta)) (F_ends_o0 : Fld Z h0 o0 "com/example/spanfold/spanfold/RangeList" "ends" "[B" (.ref ea)) (F_size_o0 : Fld Z h0 o0 "com/example/spanfold/spanfold/RangeList" "size" "I" (.int n)) (V_fa : Arv Z h0 fa kf .long z vf (.long (0 : Int64))) (V_ta : Arv Z h0 ta kt .long z vt (.long (0 : Int64))) (V_ea : Arv Z h0 ea ke .byte z ve (.int (0 : Int32))) (ne_o0_fa : o0 ≠ fa) (ne_o0_ta : o0 ≠ ta) (ne_o0_ea : o0 ≠ ea) (ne_fa_ta : fa ≠ ta) (ne_fa_ea : fa ≠ ea) (ne_ta_ea : ta ≠ ea) (g_o0 : n0 ≤ o0) (g_fa : n0 ≤ fa) (g_ta : n0 ≤ ta) (g_ea : n0 ≤ ea) (hne : ¬ (n = z)) (hq : ¬ (n < (0 : Int32)) ∧ n < z) (hi : n.toNatClampNeg = i) (hf : i < vf.length) (ht : i < vt.length) (he : i < ve.length) :
    MetFree l (⟨"com/example/spanfold/spanfold/RangeList", "add", "(ZJZJ)V"⟩ : MethodName) (head1 (Jvm.Cond.code (⟨"com/example/spanfold/spanfold/RangeList", "add", "(ZJZJ)V"⟩ : MethodName) prog_13_method_7_code 8 none :: ws) ({ frames := 0, cells := 0, slots := 0, locals := 0 } : Room)) (fun a U => a = #[(.ref o0), (.int p1), (.long q2), (.int p3), (.long q4)] ∧ Z.Warmed39 U.vm ∧ U.heap = h0) (fun _ _ _ _ _ => True) (fun _ U o U' => ∃ v L, o = .returned v ∧ Q_rm3n Z o0 p1 q2 p3 q4 fa ta ea kf kt ke z vf vt ve n i h0 n0 v U'.heap L ∧ FrameEnd U o U' L ({ frames := 0, cells := 0, slots := 0, locals := 0 } : Room).cells ({ frames := 0, cells := 0, slots := 0, locals := 0 } : Room).slots) := by
  refine MetFree.of_bodySF (plainFor_of_name pn_3) hisR ?_
  intro p e s m args below meth c s₁ Bd hml0 hP hK
  obtain ⟨rfl, hZ, hh⟩ := hP
  have hx := Bd.exec
  have hby := Bd.bytes
  have hml : c.maxLocals = 8 := hml0
  have hown : s.vm.findClass "com/example/spanfold/spanfold/RangeList" = some m.cls := findClass_of_methodNamed Bd.named
  have hnm := (name_of_methodNamed Bd.named Bd.method).1
  have X0 : Stand p l e ({ frames := 0, cells := 0, slots := 0, locals := 0 } : Room) s m #[(.ref o0), (.int p1), (.long q2), (.int p3), (.long q4)] below meth c s₁ [] 0 0 := Stand.of_body Bd
  have e0 : s₁.heap = h0 := by rw [← hh, Bd.state]; rfl
  have N0 := Fr.nil n0
  have Kp0 : Keep h0 h0 [o0, fa, ta, ea] := Keep.refl _ _
  have K0 : Steps p.tables e below (s₁.setTop (entryFrame m #[(.ref o0), (.int p1), (.long q2), (.int p3), (.long q4)] 8)) (s₁.setTop (mkF m 0 #[.val (.ref o0), .val (.int p1), .val (.long q2), .second, .val (.int p3), .val (.long q4), .second, .unset] [])) := castTop (ef_3 m o0 p1 q2 p3 q4) (Steps.refl _)
  have K1 : Steps p.tables e below _ (s₁.setTop (mkF m 1 #[.val (.ref o0), .val (.int p1), .val (.long q2), .second, .val (.int p3), .val (.long q4), .second, .unset] [(.ref o0)])) := K0.trans (by
    show Steps p.tables e below (s₁.setTop (mkF m 0 #[.val (.ref o0), .val (.int p1), .val (.long q2), .second, .val (.int p3), .val (.long q4), .second, .unset] [])) _
    refine XS.aloadN X0.here hx rfl (hb hby d3_0) rfl rfl ?_
    show Steps p.tables e below (s₁.setTop (mkF m 1 #[.val (.ref o0), .val (.int p1), .val (.long q2), .second, .val (.int p3), .val (.long q4), .second, .unset] [(.ref o0)])) _
    exact Steps.refl _)
  obtain ⟨T2, X2, e2, st2⟩ := getF X0 hx hZ hown (host := "") (Or.inl (hw _ (List.mem_of_getElem? (i := 22) rfl))) Via.refl e0 F_size_o0 (g := (mkF m 1 #[.val (.ref o0), .val (.int p1), .val (.long q2), .second, .val (.int p3), .val (.long q4), .second, .unset] [(.ref o0)])) rfl rfl (hb hby d3_1)
  have K3 : Steps p.tables e below _ (T2.setTop (mkF m 4 #[.val (.ref o0), .val (.int p1), .val (.long q2), .second, .val (.int p3), .val (.long q4), .second, .unset] [(.int n)])) := K1.trans (st2 _ (Steps.refl _))
  have K4 : Steps p.tables e below _ (T2.setTop (mkF m 5 #[.val (.ref o0), .val (.int p1), .val (.long q2), .second, .val (.int p3), .val (.long q4), .second, .unset] [(.ref o0), (.int n)])) := K3.trans (by
    show Steps p.tables e below (T2.setTop (mkF m 4 #[.val (.ref o0), .val (.int p1), .val (.long q2), .second, .val (.int p3), .val (.long q4), .second, .unset] [(.int n)])) _
    refine XS.aloadN X2.here hx rfl (hb hby d3_4) rfl rfl ?_
    show Steps p.tables e below (T2.setTop (mkF m 5 #[.val (.ref o0), .val (.int p1), .val (.long q2), .second, .val (.int p3), .val (.long q4), .second, .unset] [(.ref o0), (.int n)])) _
    exact Steps.refl _)
  obtain ⟨T5, X5, e5, st5⟩ := getF X2 hx hZ hown (host := "") (Or.inl (hw _ (List.mem_of_getElem? (i := 10) rfl))) Via.refl e2 F_froms_o0 (g := (mkF m 5 #[.val (.ref o0), .val (.int p1), .val (.long q2), .second, .val (.int p3), .val (.long q4), .second, .unset] [(.ref o0), (.int n)])) rfl rfl (hb hby d3_5)
  have K6 : Steps p.tables e below _ (T5.setTop (mkF m 8 #[.val (.ref o0), .val (.int p1), .val (.long q2), .second, .val (.int p3), .val (.long q4), .second, .unset] [(.ref fa), (.int n)])) := K4.trans (st5 _ (Steps.refl _))
  have K8 : Steps p.tables e below _ (T5.setTop (mkF m 9 #[.val (.ref o0), .val (.int p1), .val (.long q2), .second, .val (.int p3), .val (.long q4), .second, .unset] [(.int z), (.int n)])) := K6.trans (by
    show Steps p.tables e below (T5.setTop (mkF m 8 #[.val (.ref o0), .val (.int p1), .val (.long q2), .second, .val (.int p3), .val (.long q4), .second, .unset] [(.ref fa), (.int n)])) _
    refine (own_len X5 hx hZ e5 V_fa (g := (mkF m 8 #[.val (.ref o0), .val (.int p1), .val (.long q2), .second, .val (.int p3), .val (.long q4), .second, .unset] [(.ref fa), (.int n)])) rfl rfl (hb hby d3_8)).trans ?_
    show Steps p.tables e below (T5.setTop (mkF m 9 #[.val (.ref o0), .val (.int p1), .val (.long q2), .second, .val (.int p3), .val (.long q4), .second, .unset] [(.int z), (.int n)])) _
    exact Steps.refl _)
  have hc9_6 : ¬ (n = z) := hne
  have K9 : Steps p.tables e below _ (T5.setTop (mkF m 65 #[.val (.ref o0), .val (.int p1), .val (.long q2), .second, .val (.int p3), .val (.long q4), .second, .unset] [(.ref o0)])) := K8.trans (by
    show Steps p.tables e below (T5.setTop (mkF m 9 #[.val (.ref o0), .val (.int p1), .val (.long q2), .second, .val (.int p3), .val (.long q4), .second, .unset] [(.int z), (.int n)])) _
    refine XS.icmpYes X5.here hx rfl (pc0 := 9) (pc' := 64) rfl (hb hby d3_9) rfl (feq hc9_6).2 (by decide) (by decide) ?_
    show Steps p.tables e below (T5.setTop (mkF m 64 #[.val (.ref o0), .val (.int p1), .val (.long q2), .second, .val (.int p3), .val (.long q4), .second, .unset] [])) _
    refine XS.aloadN X5.here hx rfl (hb hby d3_64) rfl rfl ?_
    show Steps p.tables e below (T5.setTop (mkF m 65 #[.val (.ref o0), .val (.int p1), .val (.long q2), .second, .val (.int p3), .val (.long q4), .second, .unset] [(.ref o0)])) _
    exact Steps.refl _)
  obtain ⟨T10, X10, e10, st10⟩ := getF X5 hx hZ hown (host := "") (Or.inl (hw _ (List.mem_of_getElem? (i := 10) rfl))) Via.refl e5 F_froms_o0 (g := (mkF m 65 #[.val (.ref o0), .val (.int p1), .val (.long q2), .second, .val (.int p3), .val (.long q4), .second, .unset] [(.ref o0)])) rfl rfl (hb hby d3_65)
  have K11 : Steps p.tables e below _ (T10.setTop (mkF m 68 #[.val (.ref o0), .val (.int p1), .val (.long q2), .second, .val (.int p3), .val (.long q4), .second, .unset] [(.ref fa)])) := K9.trans (st10 _ (Steps.refl _))
  have K12 : Steps p.tables e below _ (T10.setTop (mkF m 69 #[.val (.ref o0), .val (.int p1), .val (.long q2), .second, .val (.int p3), .val (.long q4), .second, .unset] [(.ref o0), (.ref fa)])) := K11.trans (by
    show Steps p.tables e below (T10.setTop (mkF m 68 #[.val (.ref o0), .val (.int p1), .val (.long q2), .second, .val (.int p3), .val (.long q4), .second, .unset] [(.ref fa)])) _
    refine XS.aloadN X10.here hx rfl (hb hby d3_68) rfl rfl ?_
    show Steps p.tables e below (T10.setTop (mkF m 69 #[.val (.ref o0), .val (.int p1), .val (.long q2), .second, .val (.int p3), .val (.long q4), .second, .unset] [(.ref o0), (.ref fa)])) _
    exact Steps.refl _)
  obtain ⟨T13, X13, e13, st13⟩ := getF X10 hx hZ hown (host := "") (Or.inl (hw _ (List.mem_of_getElem? (i := 22) rfl))) Via.refl e10 F_size_o0 (g := (mkF m 69 #[.val (.ref o0), .val (.int p1), .val (.long q2), .second, .val (.int p3), .val (.long q4), .second, .unset] [(.ref o0), (.ref fa)])) rfl rfl (hb hby d3_69)
  have K14 : Steps p.tables e below _ (T13.setTop (mkF m 72 #[.val (.ref o0), .val (.int p1), .val (.long q2), .second, .val (.int p3), .val (.long q4), .second, .unset] [(.int n), (.ref fa)])) := K12.trans (st13 _ (Steps.refl _))
  have K15 : Steps p.tables e below _ (T13.setTop (mkF m 73 #[.val (.ref o0), .val (.int p1), .val (.long q2), .second, .val (.int p3), .val (.long q4), .second, .unset] [(.int p1), (.int n), (.ref fa)])) := K14.trans (by
    show Steps p.tables e below (T13.setTop (mkF m 72 #[.val (.ref o0), .val (.int p1), .val (.long q2), .second, .val (.int p3), .val (.long q4), .second, .unset] [(.int n), (.ref fa)])) _
    refine XS.iloadN X13.here hx rfl (hb hby d3_72) rfl ?_
    show Steps p.tables e below (T13.setTop (mkF m 73 #[.val (.ref o0), .val (.int p1), .val (.long q2), .second, .val (.int p3), .val (.long q4), .second, .unset] [(.int p1), (.int n), (.ref fa)])) _
    exact Steps.refl _)
  obtain ⟨v16_0, hv16_0, S16⟩ : ∃ (v16_0 : Int64), (if p1 = (0 : Int32) then (0 : Int64) else q2) = v16_0 ∧ Steps p.tables e below (T13.setTop (mkF m 73 #[.val (.ref o0), .val (.int p1), .val (.long q2), .second, .val (.int p3), .val (.long q4), .second, .unset] [(.int p1), (.int n), (.ref fa)])) (T13.setTop (mkF m 81 #[.val (.ref o0), .val (.int p1), .val (.long q2), .second, .val (.int p3), .val (.long q4), .second, .unset] [(.long v16_0), (.int n), (.ref fa)])) := by
    have R16 : Steps p.tables e below (T13.setTop (mkF m 73 #[.val (.ref o0), .val (.int p1), .val (.long q2), .second, .val (.int p3), .val (.long q4), .second, .unset] [(.int p1), (.int n), (.ref fa)])) (T13.setTop (mkF m 73 #[.val (.ref o0), .val (.int p1), .val (.long q2), .second, .val (.int p3), .val (.long q4), .second, .unset] [(.int p1), (.int n), (.ref fa)])) := Steps.refl _
    by_cases hc73 : p1 = (0 : Int32)
    · have K17 : Steps p.tables e below _ (T13.setTop (mkF m 81 #[.val (.ref o0), .val (.int p1), .val (.long q2), .second, .val (.int p3), .val (.long q4), .second, .unset] [(.long (0 : Int64)), (.int n), (.ref fa)])) := R16.trans (by
        show Steps p.tables e below (T13.setTop (mkF m 73 #[.val (.ref o0), .val (.int p1), .val (.long q2), .second, .val (.int p3), .val (.long q4), .second, .unset] [(.int p1), (.int n), (.ref fa)])) _
        refine XS.ifYes X13.here hx rfl (pc0 := 73) (pc' := 80) rfl (hb hby d3_73) rfl ((if0 _ _).trans (teq hc73).1) (by decide) (by decide) ?_
        show Steps p.tables e below (T13.setTop (mkF m 80 #[.val (.ref o0), .val (.int p1), .val (.long q2), .second, .val (.int p3), .val (.long q4), .second, .unset] [(.int n), (.ref fa)])) _
        refine XS.lconst X13.here hx rfl (hb hby d3_80) ?_
        show Steps p.tables e below (T13.setTop (mkF m 81 #[.val (.ref o0), .val (.int p1), .val (.long q2), .second, .val (.int p3), .val (.long q4), .second, .unset] [(.long (0 : Int64)), (.int n), (.ref fa)])) _
        exact Steps.refl _)
      exact ⟨(0 : Int64), (by rw [if_pos hc73]), K17⟩
    · have K18 : Steps p.tables e below _ (T13.setTop (mkF m 81 #[.val (.ref o0), .val (.int p1), .val (.long q2), .second, .val (.int p3), .val (.long q4), .second, .unset] [(.long q2), (.int n), (.ref fa)])) := R16.trans (by
        show Steps p.tables e below (T13.setTop (mkF m 73 #[.val (.ref o0), .val (.int p1), .val (.long q2), .second, .val (.int p3), .val (.long q4), .second, .unset] [(.int p1), (.int n), (.ref fa)])) _
        refine XS.ifNo X13.here hx rfl (hb hby d3_73) rfl ((if0 _ _).trans (feq hc73).1) ?_
        show Steps p.tables e below (T13.setTop (mkF m 76 #[.val (.ref o0), .val (.int p1), .val (.long q2), .second, .val (.int p3), .val (.long q4), .second, .unset] [(.int n), (.ref fa)])) _
        refine XS.lloadN X13.here hx rfl (hb hby d3_76) rfl ?_
        show Steps p.tables e below (T13.setTop (mkF m 77 #[.val (.ref o0), .val (.int p1), .val (.long q2), .second, .val (.int p3), .val (.long q4), .second, .unset] [(.long q2), (.int n), (.ref fa)])) _
        refine XS.goto X13.here hx rfl (pc0 := 77) (pc' := 81) rfl (hb hby d3_77) (by decide) (by decide) ?_
        show Steps p.tables e below (T13.setTop (mkF m 81 #[.val (.ref o0), .val (.int p1), .val (.long q2), .second, .val (.int p3), .val (.long q4), .second, .unset] [(.long q2), (.int n), (.ref fa)])) _
        exact Steps.refl _)
      exact ⟨q2, (by rw [if_neg hc73]), K18⟩
  have K19 := K15.trans S16
  obtain ⟨T20, h20, X20, e20, W20, V20, st20⟩ := own_stJ X13 hx hZ e13 V_fa (j := n) hq i hi hf (g := (mkF m 81 #[.val (.ref o0), .val (.int p1), .val (.long q2), .second, .val (.int p3), .val (.long q4), .second, .unset] [(.long v16_0), (.int n), (.ref fa)])) rfl rfl (hb hby d3_81)
  have K21 : Steps p.tables e below _ (T20.setTop (mkF m 82 #[.val (.ref o0), .val (.int p1), .val (.long q2), .second, .val (.int p3), .val (.long q4), .second, .unset] [])) := K19.trans st20
  have Vw20 : Arv Z h20 fa kf .long z (vf.set i (.long v16_0)) (.long (0 : Int64)) := V20
  have N20 := Fr.snoc X20 N0 g_fa
  have K22 : Steps p.tables e below _ (T20.setTop (mkF m 83 #[.val (.ref o0), .val (.int p1), .val (.long q2), .second, .val (.int p3), .val (.long q4), .second, .unset] [(.ref o0)])) := K21.trans (by
    show Steps p.tables e below (T20.setTop (mkF m 82 #[.val (.ref o0), .val (.int p1), .val (.long q2), .second, .val (.int p3), .val (.long q4), .second, .unset] [])) _
    refine XS.aloadN X20.here hx rfl (hb hby d3_82) rfl rfl ?_
    show Steps p.tables e below (T20.setTop (mkF m 83 #[.val (.ref o0), .val (.int p1), .val (.long q2), .second, .val (.int p3), .val (.long q4), .second, .unset] [(.ref o0)])) _
    exact Steps.refl _)
  have F_23 : Fld Z h20 o0 "com/example/spanfold/spanfold/RangeList" "tos" "[J" (.ref ta) := (F_tos_o0.other W20 (Or.inl ne_o0_fa))
  obtain ⟨T24, X24, e24, st24⟩ := getF X20 hx hZ hown (host := "") (Or.inl (hw _ (List.mem_of_getElem? (i := 12) rfl))) Via.refl e20 F_23 (g := (mkF m 83 #[.val (.ref o0), .val (.int p1), .val (.long q2), .second, .val (.int p3), .val (.long q4), .second, .unset] [(.ref o0)])) rfl rfl (hb hby d3_83)
  have K25 : Steps p.tables e below _ (T24.setTop (mkF m 86 #[.val (.ref o0), .val (.int p1), .val (.long q2), .second, .val (.int p3), .val (.long q4), .second, .unset] [(.ref ta)])) := K22.trans (st24 _ (Steps.refl _))
  have K26 : Steps p.tables e below _ (T24.setTop (mkF m 87 #[.val (.ref o0), .val (.int p1), .val (.long q2), .second, .val (.int p3), .val (.long q4), .second, .unset] [(.ref o0), (.ref ta)])) := K25.trans (by
    show Steps p.tables e below (T24.setTop (mkF m 86 #[.val (.ref o0), .val (.int p1), .val (.long q2), .second, .val (.int p3), .val (.long q4), .second, .unset] [(.ref ta)])) _
    refine XS.aloadN X24.here hx rfl (hb hby d3_86) rfl rfl ?_
    show Steps p.tables e below (T24.setTop (mkF m 87 #[.val (.ref o0), .val (.int p1), .val (.long q2), .second, .val (.int p3), .val (.long q4), .second, .unset] [(.ref o0), (.ref ta)])) _
    exact Steps.refl _)
  have F_27 : Fld Z h20 o0 "com/example/spanfold/spanfold/RangeList" "size" "I" (.int n) := (F_size_o0.other W20 (Or.inl ne_o0_fa))
  obtain ⟨T28, X28, e28, st28⟩ := getF X24 hx hZ hown (host := "") (Or.inl (hw _ (List.mem_of_getElem? (i := 22) rfl))) Via.refl e24 F_27 (g := (mkF m 87 #[.val (.ref o0), .val (.int p1), .val (.long q2), .second, .val (.int p3), .val (.long q4), .second, .unset] [(.ref o0), (.ref ta)])) rfl rfl (hb hby d3_87)
  have K29 : Steps p.tables e below _ (T28.setTop (mkF m 90 #[.val (.ref o0), .val (.int p1), .val (.long q2), .second, .val (.int p3), .val (.long q4), .second, .unset] [(.int n), (.ref ta)])) := K26.trans (st28 _ (Steps.refl _))
  have K30 : Steps p.tables e below _ (T28.setTop (mkF m 92 #[.val (.ref o0), .val (.int p1), .val (.long q2), .second, .val (.int p3), .val (.long q4), .second, .unset] [(.int p3), (.int n), (.ref ta)])) := K29.trans (by
    show Steps p.tables e below (T28.setTop (mkF m 90 #[.val (.ref o0), .val (.int p1), .val (.long q2), .second, .val (.int p3), .val (.long q4), .second, .unset] [(.int n), (.ref ta)])) _
    refine XS.iload X28.here hx rfl (hb hby d3_90) rfl ?_
    show Steps p.tables e below (T28.setTop (mkF m 92 #[.val (.ref o0), .val (.int p1), .val (.long q2), .second, .val (.int p3), .val (.long q4), .second, .unset] [(.int p3), (.int n), (.ref ta)])) _
    exact Steps.refl _)
  obtain ⟨v31_0, hv31_0, S31⟩ : ∃ (v31_0 : Int64), (if p3 = (0 : Int32) then (0 : Int64) else q4) = v31_0 ∧ Steps p.tables e below (T28.setTop (mkF m 92 #[.val (.ref o0), .val (.int p1), .val (.long q2), .second, .val (.int p3), .val (.long q4), .second, .unset] [(.int p3), (.int n), (.ref ta)])) (T28.setTop (mkF m 101 #[.val (.ref o0), .val (.int p1), .val (.long q2), .second, .val (.int p3), .val (.long q4), .second, .unset] [(.long v31_0), (.int n), (.ref ta)])) := by
    have R31 : Steps p.tables e below (T28.setTop (mkF m 92 #[.val (.ref o0), .val (.int p1), .val (.long q2), .second, .val (.int p3), .val (.long q4), .second, .unset] [(.int p3), (.int n), (.ref ta)])) (T28.setTop (mkF m 92 #[.val (.ref o0), .val (.int p1), .val (.long q2), .second, .val (.int p3), .val (.long q4), .second, .unset] [(.int p3), (.int n), (.ref ta)])) := Steps.refl _
    by_cases hc92 : p3 = (0 : Int32)
    · have K32 : Steps p.tables e below _ (T28.setTop (mkF m 101 #[.val (.ref o0), .val (.int p1), .val (.long q2), .second, .val (.int p3), .val (.long q4), .second, .unset] [(.long (0 : Int64)), (.int n), (.ref ta)])) := R31.trans (by
        show Steps p.tables e below (T28.setTop (mkF m 92 #[.val (.ref o0), .val (.int p1), .val (.long q2), .second, .val (.int p3), .val (.long q4), .second, .unset] [(.int p3), (.int n), (.ref ta)])) _
        refine XS.ifYes X28.here hx rfl (pc0 := 92) (pc' := 100) rfl (hb hby d3_92) rfl ((if0 _ _).trans (teq hc92).1) (by decide) (by decide) ?_
        show Steps p.tables e below (T28.setTop (mkF m 100 #[.val (.ref o0), .val (.int p1), .val (.long q2), .second, .val (.int p3), .val (.long q4), .second, .unset] [(.int n), (.ref ta)])) _
        refine XS.lconst X28.here hx rfl (hb hby d3_100) ?_
        show Steps p.tables e below (T28.setTop (mkF m 101 #[.val (.ref o0), .val (.int p1), .val (.long q2), .second, .val (.int p3), .val (.long q4), .second, .unset] [(.long (0 : Int64)), (.int n), (.ref ta)])) _
        exact Steps.refl _)
      exact ⟨(0 : Int64), (by rw [if_pos hc92]), K32⟩
    · have K33 : Steps p.tables e below _ (T28.setTop (mkF m 101 #[.val (.ref o0), .val (.int p1), .val (.long q2), .second, .val (.int p3), .val (.long q4), .second, .unset] [(.long q4), (.int n), (.ref ta)])) := R31.trans (by
        show Steps p.tables e below (T28.setTop (mkF m 92 #[.val (.ref o0), .val (.int p1), .val (.long q2), .second, .val (.int p3), .val (.long q4), .second, .unset] [(.int p3), (.int n), (.ref ta)])) _
        refine XS.ifNo X28.here hx rfl (hb hby d3_92) rfl ((if0 _ _).trans (feq hc92).1) ?_
        show Steps p.tables e below (T28.setTop (mkF m 95 #[.val (.ref o0), .val (.int p1), .val (.long q2), .second, .val (.int p3), .val (.long q4), .second, .unset] [(.int n), (.ref ta)])) _
        refine XS.lload X28.here hx rfl (hb hby d3_95) rfl ?_
        show Steps p.tables e below (T28.setTop (mkF m 97 #[.val (.ref o0), .val (.int p1), .val (.long q2), .second, .val (.int p3), .val (.long q4), .second, .unset] [(.long q4), (.int n), (.ref ta)])) _
        refine XS.goto X28.here hx rfl (pc0 := 97) (pc' := 101) rfl (hb hby d3_97) (by decide) (by decide) ?_
        show Steps p.tables e below (T28.setTop (mkF m 101 #[.val (.ref o0), .val (.int p1), .val (.long q2), .second, .val (.int p3), .val (.long q4), .second, .unset] [(.long q4), (.int n), (.ref ta)])) _
        exact Steps.refl _)
      exact ⟨q4, (by rw [if_neg hc92]), K33⟩
  have K34 := K30.trans S31
  have V_35 : Arv Z h20 ta kt .long z vt (.long (0 : Int64)) := (V_ta.other W20 (Ne.symm ne_fa_ta))
  obtain ⟨T36, h36, X36, e36, W36, V36, st36⟩ := own_stJ X28 hx hZ e28 V_35 (j := n) hq i hi ht (g := (mkF m 101 #[.val (.ref o0), .val (.int p1), .val (.long q2), .second, .val (.int p3), .val (.long q4), .second, .unset] [(.long v31_0), (.int n), (.ref ta)])) rfl rfl (hb hby d3_101)
  have K37 : Steps p.tables e below _ (T36.setTop (mkF m 102 #[.val (.ref o0), .val (.int p1), .val (.long q2), .second, .val (.int p3), .val (.long q4), .second, .unset] [])) := K34.trans st36
  have Vw36 : Arv Z h36 ta kt .long z (vt.set i (.long v31_0)) (.long (0 : Int64)) := V36
  have N36 := Fr.snoc X36 N20 g_ta
  have K38 : Steps p.tables e below _ (T36.setTop (mkF m 103 #[.val (.ref o0), .val (.int p1), .val (.long q2), .second, .val (.int p3), .val (.long q4), .second, .unset] [(.ref o0)])) := K37.trans (by
    show Steps p.tables e below (T36.setTop (mkF m 102 #[.val (.ref o0), .val (.int p1), .val (.long q2), .second, .val (.int p3), .val (.long q4), .second, .unset] [])) _
    refine XS.aloadN X36.here hx rfl (hb hby d3_102) rfl rfl ?_
    show Steps p.tables e below (T36.setTop (mkF m 103 #[.val (.ref o0), .val (.int p1), .val (.long q2), .second, .val (.int p3), .val (.long q4), .second, .unset] [(.ref o0)])) _
    exact Steps.refl _)
  have F_39 : Fld Z h36 o0 "com/example/spanfold/spanfold/RangeList" "ends" "[B" (.ref ea) := ((F_ends_o0.other W20 (Or.inl ne_o0_fa)).other W36 (Or.inl ne_o0_ta))
  obtain ⟨T40, X40, e40, st40⟩ := getF X36 hx hZ hown (host := "") (Or.inl (hw _ (List.mem_of_getElem? (i := 15) rfl))) Via.refl e36 F_39 (g := (mkF m 103 #[.val (.ref o0), .val (.int p1), .val (.long q2), .second, .val (.int p3), .val (.long q4), .second, .unset] [(.ref o0)])) rfl rfl (hb hby d3_103)
  have K41 : Steps p.tables e below _ (T40.setTop (mkF m 106 #[.val (.ref o0), .val (.int p1), .val (.long q2), .second, .val (.int p3), .val (.long q4), .second, .unset] [(.ref ea)])) := K38.trans (st40 _ (Steps.refl _))
  have K42 : Steps p.tables e below _ (T40.setTop (mkF m 107 #[.val (.ref o0), .val (.int p1), .val (.long q2), .second, .val (.int p3), .val (.long q4), .second, .unset] [(.ref o0), (.ref ea)])) := K41.trans (by
    show Steps p.tables e below (T40.setTop (mkF m 106 #[.val (.ref o0), .val (.int p1), .val (.long q2), .second, .val (.int p3), .val (.long q4), .second, .unset] [(.ref ea)])) _
    refine XS.aloadN X40.here hx rfl (hb hby d3_106) rfl rfl ?_
    show Steps p.tables e below (T40.setTop (mkF m 107 #[.val (.ref o0), .val (.int p1), .val (.long q2), .second, .val (.int p3), .val (.long q4), .second, .unset] [(.ref o0), (.ref ea)])) _
    exact Steps.refl _)
  have F_43 : Fld Z h36 o0 "com/example/spanfold/spanfold/RangeList" "size" "I" (.int n) := (F_27.other W36 (Or.inl ne_o0_ta))
  obtain ⟨T44, X44, e44, st44⟩ := getF X40 hx hZ hown (host := "") (Or.inl (hw _ (List.mem_of_getElem? (i := 22) rfl))) Via.refl e40 F_43 (g := (mkF m 107 #[.val (.ref o0), .val (.int p1), .val (.long q2), .second, .val (.int p3), .val (.long q4), .second, .unset] [(.ref o0), (.ref ea)])) rfl rfl (hb hby d3_107)
  have K45 : Steps p.tables e below _ (T44.setTop (mkF m 110 #[.val (.ref o0), .val (.int p1), .val (.long q2), .second, .val (.int p3), .val (.long q4), .second, .unset] [(.int n), (.ref ea)])) := K42.trans (st44 _ (Steps.refl _))
  have K46 : Steps p.tables e below _ (T44.setTop (mkF m 111 #[.val (.ref o0), .val (.int p1), .val (.long q2), .second, .val (.int p3), .val (.long q4), .second, .unset] [(.int p1), (.int n), (.ref ea)])) := K45.trans (by
    show Steps p.tables e below (T44.setTop (mkF m 110 #[.val (.ref o0), .val (.int p1), .val (.long q2), .second, .val (.int p3), .val (.long q4), .second, .unset] [(.int n), (.ref ea)])) _
    refine XS.iloadN X44.here hx rfl (hb hby d3_110) rfl ?_
    show Steps p.tables e below (T44.setTop (mkF m 111 #[.val (.ref o0), .val (.int p1), .val (.long q2), .second, .val (.int p3), .val (.long q4), .second, .unset] [(.int p1), (.int n), (.ref ea)])) _
    exact Steps.refl _)
  obtain ⟨v47_0, hv47_0, S47⟩ : ∃ (v47_0 : Int32), (if p1 = (0 : Int32) then (0 : Int32) else (1 : Int32)) = v47_0 ∧ Steps p.tables e below (T44.setTop (mkF m 111 #[.val (.ref o0), .val (.int p1), .val (.long q2), .second, .val (.int p3), .val (.long q4), .second, .unset] [(.int p1), (.int n), (.ref ea)])) (T44.setTop (mkF m 119 #[.val (.ref o0), .val (.int p1), .val (.long q2), .second, .val (.int p3), .val (.long q4), .second, .unset] [(.int v47_0), (.int n), (.ref ea)])) := by
    have R47 : Steps p.tables e below (T44.setTop (mkF m 111 #[.val (.ref o0), .val (.int p1), .val (.long q2), .second, .val (.int p3), .val (.long q4), .second, .unset] [(.int p1), (.int n), (.ref ea)])) (T44.setTop (mkF m 111 #[.val (.ref o0), .val (.int p1), .val (.long q2), .second, .val (.int p3), .val (.long q4), .second, .unset] [(.int p1), (.int n), (.ref ea)])) := Steps.refl _
    by_cases hc111 : p1 = (0 : Int32)
    · have K48 : Steps p.tables e below _ (T44.setTop (mkF m 119 #[.val (.ref o0), .val (.int p1), .val (.long q2), .second, .val (.int p3), .val (.long q4), .second, .unset] [(.int (0 : Int32)), (.int n), (.ref ea)])) := R47.trans (by
        show Steps p.tables e below (T44.setTop (mkF m 111 #[.val (.ref o0), .val (.int p1), .val (.long q2), .second, .val (.int p3), .val (.long q4), .second, .unset] [(.int p1), (.int n), (.ref ea)])) _
        refine XS.ifYes X44.here hx rfl (pc0 := 111) (pc' := 118) rfl (hb hby d3_111) rfl ((if0 _ _).trans (teq hc111).1) (by decide) (by decide) ?_
        show Steps p.tables e below (T44.setTop (mkF m 118 #[.val (.ref o0), .val (.int p1), .val (.long q2), .second, .val (.int p3), .val (.long q4), .second, .unset] [(.int n), (.ref ea)])) _
        refine XS.iconst X44.here hx rfl (hb hby d3_118) ?_
        show Steps p.tables e below (T44.setTop (mkF m 119 #[.val (.ref o0), .val (.int p1), .val (.long q2), .second, .val (.int p3), .val (.long q4), .second, .unset] [(.int (0 : Int32)), (.int n), (.ref ea)])) _
        exact Steps.refl _)
      exact ⟨(0 : Int32), (by rw [if_pos hc111]), K48⟩
    · have K49 : Steps p.tables e below _ (T44.setTop (mkF m 119 #[.val (.ref o0), .val (.int p1), .val (.long q2), .second, .val (.int p3), .val (.long q4), .second, .unset] [(.int (1 : Int32)), (.int n), (.ref ea)])) := R47.trans (by
        show Steps p.tables e below (T44.setTop (mkF m 111 #[.val (.ref o0), .val (.int p1), .val (.long q2), .second, .val (.int p3), .val (.long q4), .second, .unset] [(.int p1), (.int n), (.ref ea)])) _
        refine XS.ifNo X44.here hx rfl (hb hby d3_111) rfl ((if0 _ _).trans (feq hc111).1) ?_
        show Steps p.tables e below (T44.setTop (mkF m 114 #[.val (.ref o0), .val (.int p1), .val (.long q2), .second, .val (.int p3), .val (.long q4), .second, .unset] [(.int n), (.ref ea)])) _
        refine XS.iconst X44.here hx rfl (hb hby d3_114) ?_
        show Steps p.tables e below (T44.setTop (mkF m 115 #[.val (.ref o0), .val (.int p1), .val (.long q2), .second, .val (.int p3), .val (.long q4), .second, .unset] [(.int (1 : Int32)), (.int n), (.ref ea)])) _
        refine XS.goto X44.here hx rfl (pc0 := 115) (pc' := 119) rfl (hb hby d3_115) (by decide) (by decide) ?_
        show Steps p.tables e below (T44.setTop (mkF m 119 #[.val (.ref o0), .val (.int p1), .val (.long q2), .second, .val (.int p3), .val (.long q4), .second, .unset] [(.int (1 : Int32)), (.int n), (.ref ea)])) _
        exact Steps.refl _)
      exact ⟨(1 : Int32), (by rw [if_neg hc111]), K49⟩
  have K50 := K46.trans S47
  have K51 : Steps p.tables e below _ (T44.setTop (mkF m 121 #[.val (.ref o0), .val (.int p1), .val (.long q2), .second, .val (.int p3), .val (.long q4), .second, .unset] [(.int p3), (.int v47_0), (.int n), (.ref ea)])) := K50.trans (by
    show Steps p.tables e below (T44.setTop (mkF m 119 #[.val (.ref o0), .val (.int p1), .val (.long q2), .second, .val (.int p3), .val (.long q4), .second, .unset] [(.int v47_0), (.int n), (.ref ea)])) _
    refine XS.iload X44.here hx rfl (hb hby d3_119) rfl ?_
    show Steps p.tables e below (T44.setTop (mkF m 121 #[.val (.ref o0), .val (.int p1), .val (.long q2), .second, .val (.int p3), .val (.long q4), .second, .unset] [(.int p3), (.int v47_0), (.int n), (.ref ea)])) _
    exact Steps.refl _)
  obtain ⟨v52_0, hv52_0, S52⟩ : ∃ (v52_0 : Int32), (if p3 = (0 : Int32) then (0 : Int32) else (2 : Int32)) = v52_0 ∧ Steps p.tables e below (T44.setTop (mkF m 121 #[.val (.ref o0), .val (.int p1), .val (.long q2), .second, .val (.int p3), .val (.long q4), .second, .unset] [(.int p3), (.int v47_0), (.int n), (.ref ea)])) (T44.setTop (mkF m 129 #[.val (.ref o0), .val (.int p1), .val (.long q2), .second, .val (.int p3), .val (.long q4), .second, .unset] [(.int v52_0), (.int v47_0), (.int n), (.ref ea)])) := by
    have R52 : Steps p.tables e below (T44.setTop (mkF m 121 #[.val (.ref o0), .val (.int p1), .val (.long q2), .second, .val (.int p3), .val (.long q4), .second, .unset] [(.int p3), (.int v47_0), (.int n), (.ref ea)])) (T44.setTop (mkF m 121 #[.val (.ref o0), .val (.int p1), .val (.long q2), .second, .val (.int p3), .val (.long q4), .second, .unset] [(.int p3), (.int v47_0), (.int n), (.ref ea)])) := Steps.refl _
    by_cases hc121 : p3 = (0 : Int32)
    · have K53 : Steps p.tables e below _ (T44.setTop (mkF m 129 #[.val (.ref o0), .val (.int p1), .val (.long q2), .second, .val (.int p3), .val (.long q4), .second, .unset] [(.int (0 : Int32)), (.int v47_0), (.int n), (.ref ea)])) := R52.trans (by
        show Steps p.tables e below (T44.setTop (mkF m 121 #[.val (.ref o0), .val (.int p1), .val (.long q2), .second, .val (.int p3), .val (.long q4), .second, .unset] [(.int p3), (.int v47_0), (.int n), (.ref ea)])) _
        refine XS.ifYes X44.here hx rfl (pc0 := 121) (pc' := 128) rfl (hb hby d3_121) rfl ((if0 _ _).trans (teq hc121).1) (by decide) (by decide) ?_
        show Steps p.tables e below (T44.setTop (mkF m 128 #[.val (.ref o0), .val (.int p1), .val (.long q2), .second, .val (.int p3), .val (.long q4), .second, .unset] [(.int v47_0), (.int n), (.ref ea)])) _
        refine XS.iconst X44.here hx rfl (hb hby d3_128) ?_
        show Steps p.tables e below (T44.setTop (mkF m 129 #[.val (.ref o0), .val (.int p1), .val (.long q2), .second, .val (.int p3), .val (.long q4), .second, .unset] [(.int (0 : Int32)), (.int v47_0), (.int n), (.ref ea)])) _
        exact Steps.refl _)
      exact ⟨(0 : Int32), (by rw [if_pos hc121]), K53⟩
    · have K54 : Steps p.tables e below _ (T44.setTop (mkF m 129 #[.val (.ref o0), .val (.int p1), .val (.long q2), .second, .val (.int p3), .val (.long q4), .second, .unset] [(.int (2 : Int32)), (.int v47_0), (.int n), (.ref ea)])) := R52.trans (by
        show Steps p.tables e below (T44.setTop (mkF m 121 #[.val (.ref o0), .val (.int p1), .val (.long q2), .second, .val (.int p3), .val (.long q4), .second, .unset] [(.int p3), (.int v47_0), (.int n), (.ref ea)])) _
        refine XS.ifNo X44.here hx rfl (hb hby d3_121) rfl ((if0 _ _).trans (feq hc121).1) ?_
        show Steps p.tables e below (T44.setTop (mkF m 124 #[.val (.ref o0), .val (.int p1), .val (.long q2), .second, .val (.int p3), .val (.long q4), .second, .unset] [(.int v47_0), (.int n), (.ref ea)])) _
        refine XS.iconst X44.here hx rfl (hb hby d3_124) ?_
        show Steps p.tables e below (T44.setTop (mkF m 125 #[.val (.ref o0), .val (.int p1), .val (.long q2), .second, .val (.int p3), .val (.long q4), .second, .unset] [(.int (2 : Int32)), (.int v47_0), (.int n), (.ref ea)])) _
        refine XS.goto X44.here hx rfl (pc0 := 125) (pc' := 129) rfl (hb hby d3_125) (by decide) (by decide) ?_
        show Steps p.tables e below (T44.setTop (mkF m 129 #[.val (.ref o0), .val (.int p1), .val (.long q2), .second, .val (.int p3), .val (.long q4), .second, .unset] [(.int (2 : Int32)), (.int v47_0), (.int n), (.ref ea)])) _
        exact Steps.refl _)
      exact ⟨(2 : Int32), (by rw [if_neg hc121]), K54⟩
  have K55 := K51.trans S52
  have K56 : Steps p.tables e below _ (T44.setTop (mkF m 131 #[.val (.ref o0), .val (.int p1), .val (.long q2), .second, .val (.int p3), .val (.long q4), .second, .unset] [(.int ((v47_0 ||| v52_0).toInt8.toInt32)), (.int n), (.ref ea)])) := K55.trans (by
    show Steps p.tables e below (T44.setTop (mkF m 129 #[.val (.ref o0), .val (.int p1), .val (.long q2), .second, .val (.int p3), .val (.long q4), .second, .unset] [(.int v52_0), (.int v47_0), (.int n), (.ref ea)])) _
    refine XS.ior X44.here hx rfl (hb hby d3_129) rfl ?_
    show Steps p.tables e below (T44.setTop (mkF m 130 #[.val (.ref o0), .val (.int p1), .val (.long q2), .second, .val (.int p3), .val (.long q4), .second, .unset] [(.int (v47_0 ||| v52_0)), (.int n), (.ref ea)])) _
    refine XS.i2b X44.here hx rfl (hb hby d3_130) rfl ?_
    show Steps p.tables e below (T44.setTop (mkF m 131 #[.val (.ref o0), .val (.int p1), .val (.long q2), .second, .val (.int p3), .val (.long q4), .second, .unset] [(.int ((v47_0 ||| v52_0).toInt8.toInt32)), (.int n), (.ref ea)])) _
    exact Steps.refl _)
  have V_57 : Arv Z h36 ea ke .byte z ve (.int (0 : Int32)) := ((V_ea.other W20 (Ne.symm ne_fa_ea)).other W36 (Ne.symm ne_ta_ea))
  obtain ⟨T58, h58, X58, e58, W58, V58, st58⟩ := own_stB X44 hx hZ e44 V_57 (j := n) hq i hi he (g := (mkF m 131 #[.val (.ref o0), .val (.int p1), .val (.long q2), .second, .val (.int p3), .val (.long q4), .second, .unset] [(.int ((v47_0 ||| v52_0).toInt8.toInt32)), (.int n), (.ref ea)])) rfl rfl (hb hby d3_131)
  have K59 : Steps p.tables e below _ (T58.setTop (mkF m 132 #[.val (.ref o0), .val (.int p1), .val (.long q2), .second, .val (.int p3), .val (.long q4), .second, .unset] [])) := K56.trans st58
  have Vw58 : Arv Z h58 ea ke .byte z (ve.set i (.int (((v47_0 ||| v52_0).toInt8.toInt32).toInt8.toInt32))) (.int (0 : Int32)) := V58
  have N58 := Fr.snoc X58 N36 g_ea
  have K60 : Steps p.tables e below _ (T58.setTop (mkF m 134 #[.val (.ref o0), .val (.int p1), .val (.long q2), .second, .val (.int p3), .val (.long q4), .second, .unset] [(.ref o0), (.ref o0)])) := K59.trans (by
    show Steps p.tables e below (T58.setTop (mkF m 132 #[.val (.ref o0), .val (.int p1), .val (.long q2), .second, .val (.int p3), .val (.long q4), .second, .unset] [])) _
    refine XS.aloadN X58.here hx rfl (hb hby d3_132) rfl rfl ?_
    show Steps p.tables e below (T58.setTop (mkF m 133 #[.val (.ref o0), .val (.int p1), .val (.long q2), .second, .val (.int p3), .val (.long q4), .second, .unset] [(.ref o0)])) _
    refine XS.dup X58.here hx rfl (hb hby d3_133) rfl rfl ?_
    show Steps p.tables e below (T58.setTop (mkF m 134 #[.val (.ref o0), .val (.int p1), .val (.long q2), .second, .val (.int p3), .val (.long q4), .second, .unset] [(.ref o0), (.ref o0)])) _
    exact Steps.refl _)
  have F_61 : Fld Z h58 o0 "com/example/spanfold/spanfold/RangeList" "size" "I" (.int n) := (F_43.other W58 (Or.inl ne_o0_ea))
  obtain ⟨T62, X62, e62, st62⟩ := getF X58 hx hZ hown (host := "") (Or.inl (hw _ (List.mem_of_getElem? (i := 22) rfl))) Via.refl e58 F_61 (g := (mkF m 134 #[.val (.ref o0), .val (.int p1), .val (.long q2), .second, .val (.int p3), .val (.long q4), .second, .unset] [(.ref o0), (.ref o0)])) rfl rfl (hb hby d3_134)
  have K63 : Steps p.tables e below _ (T62.setTop (mkF m 137 #[.val (.ref o0), .val (.int p1), .val (.long q2), .second, .val (.int p3), .val (.long q4), .second, .unset] [(.int n), (.ref o0)])) := K60.trans (st62 _ (Steps.refl _))
  have K64 : Steps p.tables e below _ (T62.setTop (mkF m 139 #[.val (.ref o0), .val (.int p1), .val (.long q2), .second, .val (.int p3), .val (.long q4), .second, .unset] [(.int (n + (1 : Int32))), (.ref o0)])) := K63.trans (by
    show Steps p.tables e below (T62.setTop (mkF m 137 #[.val (.ref o0), .val (.int p1), .val (.long q2), .second, .val (.int p3), .val (.long q4), .second, .unset] [(.int n), (.ref o0)])) _
    refine XS.iconst X62.here hx rfl (hb hby d3_137) ?_
    show Steps p.tables e below (T62.setTop (mkF m 138 #[.val (.ref o0), .val (.int p1), .val (.long q2), .second, .val (.int p3), .val (.long q4), .second, .unset] [(.int (1 : Int32)), (.int n), (.ref o0)])) _
    refine XS.iadd X62.here hx rfl (hb hby d3_138) rfl ?_
    show Steps p.tables e below (T62.setTop (mkF m 139 #[.val (.ref o0), .val (.int p1), .val (.long q2), .second, .val (.int p3), .val (.long q4), .second, .unset] [(.int (n + (1 : Int32))), (.ref o0)])) _
    exact Steps.refl _)
  have E_65 : Exa Z h58 o0 "com/example/spanfold/spanfold/RangeList" := (((E_o0.wr W20).wr W36).wr W58)
  obtain ⟨T66, h66, X66, e66, W66, st66⟩ := putF X62 hx hZ hown (host := "") (Or.inl (hw _ (List.mem_of_getElem? (i := 22) rfl))) Via.refl e62 F_61 E_65 (Or.inl (hw _ (List.mem_of_getElem? (i := 23) rfl))) (hw _ (List.mem_of_getElem? (i := 1) rfl)) (ty := .int) (by decide) rfl rfl (g := (mkF m 139 #[.val (.ref o0), .val (.int p1), .val (.long q2), .second, .val (.int p3), .val (.long q4), .second, .unset] [(.int (n + (1 : Int32))), (.ref o0)])) rfl rfl (hb hby d3_139)
  have K67 : Steps p.tables e below _ (T66.setTop (mkF m 142 #[.val (.ref o0), .val (.int p1), .val (.long q2), .second, .val (.int p3), .val (.long q4), .second, .unset] [])) := K64.trans (st66 _ (Steps.refl _))
  have Fw66 : Fld Z h66 o0 "com/example/spanfold/spanfold/RangeList" "size" "I" (.int (n + (1 : Int32))) := F_61.same W66
  have N66 := Fr.snoc X66 N58 g_o0
  subst hv52_0
  subst hv47_0
  subst hv31_0
  subst hv16_0
  obtain ⟨fs, hr, hrun, hended, hW, hsame⟩ := X66.leave (v := none) (fun _ => rfl)
  have K_68 : Keep h0 h66 [o0, fa, ta, ea] := ((((Kp0.wr W20 (Or.inl (List.mem_of_getElem? (i := 1) rfl))).wr W36 (Or.inl (List.mem_of_getElem? (i := 2) rfl))).wr W58 (Or.inl (List.mem_of_getElem? (i := 3) rfl))).wr W66 (Or.inl (List.mem_of_getElem? (i := 0) rfl)))
  have E_69 : Exa Z h66 o0 "com/example/spanfold/spanfold/RangeList" := (E_65.wr W66)
  have F_70 : Fld Z h66 o0 "com/example/spanfold/spanfold/RangeList" "froms" "[J" (.ref fa) := ((((F_froms_o0.other W20 (Or.inl ne_o0_fa)).other W36 (Or.inl ne_o0_ta)).other W58 (Or.inl ne_o0_ea)).other W66 (Or.inr (slot_ne (Or.inl (hw _ (List.mem_of_getElem? (i := 11) rfl))) (Or.inl (hw _ (List.mem_of_getElem? (i := 23) rfl))) (by decide) (t := (.array .long)) (t' := .int) (by decide) (by decide))))
  have F_71 : Fld Z h66 o0 "com/example/spanfold/spanfold/RangeList" "tos" "[J" (.ref ta) := (((F_23.other W36 (Or.inl ne_o0_ta)).other W58 (Or.inl ne_o0_ea)).other W66 (Or.inr (slot_ne (Or.inl (hw _ (List.mem_of_getElem? (i := 13) rfl))) (Or.inl (hw _ (List.mem_of_getElem? (i := 23) rfl))) (by decide) (t := (.array .long)) (t' := .int) (by decide) (by decide))))
  have F_72 : Fld Z h66 o0 "com/example/spanfold/spanfold/RangeList" "ends" "[B" (.ref ea) := ((F_39.other W58 (Or.inl ne_o0_ea)).other W66 (Or.inr (slot_ne (Or.inl (hw _ (List.mem_of_getElem? (i := 16) rfl))) (Or.inl (hw _ (List.mem_of_getElem? (i := 23) rfl))) (by decide) (t := (.array .byte)) (t' := .int) (by decide) (by decide))))
  have V_73 : Arv Z h66 fa kf .long z (vf.set i (.long (if p1 = (0 : Int32) then (0 : Int64) else q2))) (.long (0 : Int64)) := (((Vw20.other W36 ne_fa_ta).other W58 ne_fa_ea).other W66 (Ne.symm ne_o0_fa))
  have V_74 : Arv Z h66 ta kt .long z (vt.set i (.long (if p3 = (0 : Int32) then (0 : Int64) else q4))) (.long (0 : Int64)) := ((Vw36.other W58 ne_ta_ea).other W66 (Ne.symm ne_o0_ta))
  have V_75 : Arv Z h66 ea ke .byte z (ve.set i (.int ((((if p1 = (0 : Int32) then (0 : Int32) else (1 : Int32)) ||| (if p3 = (0 : Int32) then (0 : Int32) else (2 : Int32))).toInt8.toInt32).toInt8.toInt32))) (.int (0 : Int32)) := (Vw58.other W66 (Ne.symm ne_o0_ea))
  refine ⟨_, _, K67.trans (X66.returnOut hx Bd.returns (hb hby d3_142) hr), hrun, hended, _, _, rfl, ?_, ⟨_, rfl⟩, hW, hsame.mono (by decide) (by first | decide | omega)⟩
  show Q_rm3n Z o0 p1 q2 p3 q4 fa ta ea kf kt ke z vf vt ve n i h0 n0 _ T66.heap _
  rw [e66]
  exact ⟨rfl, N66, K_68, E_69, F_70, F_71, F_72, Fw66, V_73, V_74, V_75⟩
theorem d3_12 : decode prog_13_method_7_code 12 = .ok (.bipush 8, 2) := by decide +kernel
theorem d3_14 : decode prog_13_method_7_code 14 = .ok (.aload_n 0, 1) := by decide +kernel
theorem d3_15 : decode prog_13_method_7_code 15 = .ok (.getfield 20, 3) := by decide +kernel
theorem d3_18 : decode prog_13_method_7_code 18 = .ok (.iconst 2, 1) := by decide +kernel
theorem d3_19 : decode prog_13_method_7_code 19 = .ok (.imul, 1) := by decide +kernel
theorem d3_20 : decode prog_13_method_7_code 20 = .ok (.invokestatic 30, 3) := by decide +kernel
theorem d3_23 : decode prog_13_method_7_code 23 = .ok (.istore 7, 2) := by decide +kernel
theorem d3_25 : decode prog_13_method_7_code 25 = .ok (.aload_n 0, 1) := by decide +kernel
theorem d3_26 : decode prog_13_method_7_code 26 = .ok (.aload_n 0, 1) := by decide +kernel
theorem d3_27 : decode prog_13_method_7_code 27 = .ok (.getfield 7, 3) := by decide +kernel
theorem d3_30 : decode prog_13_method_7_code 30 = .ok (.iload 7, 2) := by decide +kernel
theorem pd_2 : parseMethodDescriptor "([JI)[J" = some ⟨[(.array .long), .int], some (.array .long)⟩ := by decide +kernel
theorem d3_32 : decode prog_13_method_7_code 32 = .ok (.invokestatic 35, 3) := by decide +kernel
theorem d3_35 : decode prog_13_method_7_code 35 = .ok (.putfield 7, 3) := by decide +kernel
theorem d3_38 : decode prog_13_method_7_code 38 = .ok (.aload_n 0, 1) := by decide +kernel
theorem d3_39 : decode prog_13_method_7_code 39 = .ok (.aload_n 0, 1) := by decide +kernel
theorem d3_40 : decode prog_13_method_7_code 40 = .ok (.getfield 13, 3) := by decide +kernel
theorem d3_43 : decode prog_13_method_7_code 43 = .ok (.iload 7, 2) := by decide +kernel
theorem d3_45 : decode prog_13_method_7_code 45 = .ok (.invokestatic 35, 3) := by decide +kernel
theorem d3_48 : decode prog_13_method_7_code 48 = .ok (.putfield 13, 3) := by decide +kernel
theorem d3_51 : decode prog_13_method_7_code 51 = .ok (.aload_n 0, 1) := by decide +kernel
theorem d3_52 : decode prog_13_method_7_code 52 = .ok (.aload_n 0, 1) := by decide +kernel
theorem d3_53 : decode prog_13_method_7_code 53 = .ok (.getfield 16, 3) := by decide +kernel
theorem d3_56 : decode prog_13_method_7_code 56 = .ok (.iload 7, 2) := by decide +kernel
theorem pd_3 : parseMethodDescriptor "([BI)[B" = some ⟨[(.array .byte), .int], some (.array .byte)⟩ := by decide +kernel
theorem d3_58 : decode prog_13_method_7_code 58 = .ok (.invokestatic 41, 3) := by decide +kernel
theorem d3_61 : decode prog_13_method_7_code 61 = .ok (.putfield 16, 3) := by decide +kernel
def Q_rm3g (Z : State) (o0 : Addr) (p1 : Int32) (q2 : Int64) (p3 : Int32) (q4 : Int64) (fa : Addr) (ta : Addr) (ea : Addr) (kf : ClassId) (kt : ClassId) (ke : ClassId) (z : Int32) (vf : List Value) (vt : List Value) (ve : List Value) (n : Int32) (i : Nat) (h0 : Heap) (n0 : Nat) (v : Option Value) (h : Heap) (L : List Loc) : Prop := ∃ b19_b4 : Addr, ∃ b32_b4 : Addr, ∃ b50_b4 : Addr, ∃ k4_19 : ClassId, ∃ k4_32 : ClassId, ∃ k4_50 : ClassId, v = none ∧ Fr n0 L ∧ Keep h0 h [o0] ∧ Exa Z h o0 "com/example/spanfold/spanfold/RangeList" ∧ Fld Z h o0 "com/example/spanfold/spanfold/RangeList" "froms" "[J" (.ref b19_b4) ∧ Fld Z h o0 "com/example/spanfold/spanfold/RangeList" "tos" "[J" (.ref b32_b4) ∧ Fld Z h o0 "com/example/spanfold/spanfold/RangeList" "ends" "[B" (.ref b50_b4) ∧ Fld Z h o0 "com/example/spanfold/spanfold/RangeList" "size" "I" (.int (n + (1 : Int32))) ∧ Exa Z h b19_b4 "[J" ∧ Arv Z h b19_b4 k4_19 .long (8 : Int32) ((own_cp 8 z.toNatClampNeg vf (.long (0 : Int64))).set i (.long (if p1 = (0 : Int32) then (0 : Int64) else q2))) (.long (0 : Int64)) ∧ Exa Z h b32_b4 "[J" ∧ Arv Z h b32_b4 k4_32 .long (8 : Int32) ((own_cp 8 z.toNatClampNeg vt (.long (0 : Int64))).set i (.long (if p3 = (0 : Int32) then (0 : Int64) else q4))) (.long (0 : Int64)) ∧ Exa Z h b50_b4 "[B" ∧ Arv Z h b50_b4 k4_50 .byte (8 : Int32) ((own_cp 8 z.toNatClampNeg ve (.int (0 : Int32))).set i (.int ((((if p1 = (0 : Int32) then (0 : Int32) else (1 : Int32)) ||| (if p3 = (0 : Int32) then (0 : Int32) else (2 : Int32))).toInt8.toInt32).toInt8.toInt32))) (.int (0 : Int32)) ∧ h0.size ≤ b19_b4 ∧ h0.size ≤ b32_b4 ∧ h0.size ≤ b50_b4 ∧ b19_b4 ≠ b32_b4 ∧ b19_b4 ≠ b50_b4 ∧ b32_b4 ≠ b50_b4
set_option maxRecDepth 65536 in
set_option maxHeartbeats 40000000 in
theorem rm3g (l : Launch) (Z : State) (a0 : Array Value) (hw : ∀ d ∈ tables_1, d.before a0 Z = true) (ws : List Jvm.Cond) (o0 : Addr) (p1 : Int32) (q2 : Int64) (p3 : Int32) (q4 : Int64) (fa : Addr) (ta : Addr) (ea : Addr) (kf : ClassId) (kt : ClassId) (ke : ClassId) (z : Int32) (vf : List Value) (vt : List Value) (ve : List Value) (n : Int32) (i : Nat) (h0 : Heap) (n0 : Nat) (Z0 : n0 ≤ h0.size) (E_o0 : Exa Z h0 o0 "com/example/spanfold/spanfold/RangeList") (F_froms_o0 : Fld Z h0 o0 "com/example/spanfold/spanfold/RangeList" "froms" "[J" (.ref fa)) (F_tos_o0 : Fld Z h0 o0 "com/example/spanfold/spanfold/RangeList" "tos" "[J" (.ref ta)) (F_ends_o0 : Fld Z h0 o0 "com/example/spanfold/spanfold/RangeList" "ends" "[B" (.ref ea)) (F_size_o0 : Fld Z h0 o0 "com/example/spanfold/spanfold/RangeList" "size" "I" (.int n)) (V_fa : Arv Z h0 fa kf .long z vf (.long (0 : Int64))) (V_ta : Arv Z h0 ta kt .long z vt (.long (0 : Int64))) (V_ea : Arv Z h0 ea ke .byte z ve (.int (0 : Int32))) (ne_o0_fa : o0 ≠ fa) (ne_o0_ta : o0 ≠ ta) (ne_o0_ea : o0 ≠ ea) (ne_fa_ta : fa ≠ ta) (ne_fa_ea : fa ≠ ea) (ne_ta_ea : ta ≠ ea) (g_o0 : n0 ≤ o0) (hnz : n = z) (hq : ¬ (z < (0 : Int32))) (hz8 : z < (8 : Int32)) (hzn : z.toNatClampNeg ≤ 8) (hq8 : ¬ (n < (0 : Int32)) ∧ n < (8 : Int32)) (hi : n.toNatClampNeg = i) (hlen : i < 8) (hm : (if (8 : Int32) < (n * (2 : Int32)) then (n * (2 : Int32)) else (8 : Int32)) = (8 : Int32)) :
    MetFree l (⟨"com/example/spanfold/spanfold/RangeList", "add", "(ZJZJ)V"⟩ : MethodName) (head1 (Jvm.Cond.code (⟨"com/example/spanfold/spanfold/RangeList", "add", "(ZJZJ)V"⟩ : MethodName) prog_13_method_7_code 8 none :: ws) ({ frames := 2, cells := 3, slots := 24, locals := 51 } : Room)) (fun a U => a = #[(.ref o0), (.int p1), (.long q2), (.int p3), (.long q4)] ∧ Z.Warmed39 U.vm ∧ U.heap = h0) (fun _ _ _ _ _ => True) (fun _ U o U' => ∃ v L, o = .returned v ∧ Q_rm3g Z o0 p1 q2 p3 q4 fa ta ea kf kt ke z vf vt ve n i h0 n0 v U'.heap L ∧ FrameEnd U o U' L ({ frames := 2, cells := 3, slots := 24, locals := 51 } : Room).cells ({ frames := 2, cells := 3, slots := 24, locals := 51 } : Room).slots) := by
  refine MetFree.of_bodySF (plainFor_of_name pn_3) hisR ?_
  intro p e s m args below meth c s₁ Bd hml0 hP hK
  obtain ⟨rfl, hZ, hh⟩ := hP
  have hx := Bd.exec
  have hby := Bd.bytes
  have hml : c.maxLocals = 8 := hml0
  have hown : s.vm.findClass "com/example/spanfold/spanfold/RangeList" = some m.cls := findClass_of_methodNamed Bd.named
  have hnm := (name_of_methodNamed Bd.named Bd.method).1
  have X0 : Stand p l e ({ frames := 2, cells := 3, slots := 24, locals := 51 } : Room) s m #[(.ref o0), (.int p1), (.long q2), (.int p3), (.long q4)] below meth c s₁ [] 0 0 := Stand.of_body Bd
  have e0 : s₁.heap = h0 := by rw [← hh, Bd.state]; rfl
  have N0 := Fr.nil n0
  have Kp0 : Keep h0 h0 [o0] := Keep.refl _ _
  have K0 : Steps p.tables e below (s₁.setTop (entryFrame m #[(.ref o0), (.int p1), (.long q2), (.int p3), (.long q4)] 8)) (s₁.setTop (mkF m 0 #[.val (.ref o0), .val (.int p1), .val (.long q2), .second, .val (.int p3), .val (.long q4), .second, .unset] [])) := castTop (ef_3 m o0 p1 q2 p3 q4) (Steps.refl _)
  have K1 : Steps p.tables e below _ (s₁.setTop (mkF m 1 #[.val (.ref o0), .val (.int p1), .val (.long q2), .second, .val (.int p3), .val (.long q4), .second, .unset] [(.ref o0)])) := K0.trans (by
    show Steps p.tables e below (s₁.setTop (mkF m 0 #[.val (.ref o0), .val (.int p1), .val (.long q2), .second, .val (.int p3), .val (.long q4), .second, .unset] [])) _
    refine XS.aloadN X0.here hx rfl (hb hby d3_0) rfl rfl ?_
    show Steps p.tables e below (s₁.setTop (mkF m 1 #[.val (.ref o0), .val (.int p1), .val (.long q2), .second, .val (.int p3), .val (.long q4), .second, .unset] [(.ref o0)])) _
    exact Steps.refl _)
  obtain ⟨T2, X2, e2, st2⟩ := getF X0 hx hZ hown (host := "") (Or.inl (hw _ (List.mem_of_getElem? (i := 22) rfl))) Via.refl e0 F_size_o0 (g := (mkF m 1 #[.val (.ref o0), .val (.int p1), .val (.long q2), .second, .val (.int p3), .val (.long q4), .second, .unset] [(.ref o0)])) rfl rfl (hb hby d3_1)
  have K3 : Steps p.tables e below _ (T2.setTop (mkF m 4 #[.val (.ref o0), .val (.int p1), .val (.long q2), .second, .val (.int p3), .val (.long q4), .second, .unset] [(.int n)])) := K1.trans (st2 _ (Steps.refl _))
  have K4 : Steps p.tables e below _ (T2.setTop (mkF m 5 #[.val (.ref o0), .val (.int p1), .val (.long q2), .second, .val (.int p3), .val (.long q4), .second, .unset] [(.ref o0), (.int n)])) := K3.trans (by
    show Steps p.tables e below (T2.setTop (mkF m 4 #[.val (.ref o0), .val (.int p1), .val (.long q2), .second, .val (.int p3), .val (.long q4), .second, .unset] [(.int n)])) _
    refine XS.aloadN X2.here hx rfl (hb hby d3_4) rfl rfl ?_
    show Steps p.tables e below (T2.setTop (mkF m 5 #[.val (.ref o0), .val (.int p1), .val (.long q2), .second, .val (.int p3), .val (.long q4), .second, .unset] [(.ref o0), (.int n)])) _
    exact Steps.refl _)
  obtain ⟨T5, X5, e5, st5⟩ := getF X2 hx hZ hown (host := "") (Or.inl (hw _ (List.mem_of_getElem? (i := 10) rfl))) Via.refl e2 F_froms_o0 (g := (mkF m 5 #[.val (.ref o0), .val (.int p1), .val (.long q2), .second, .val (.int p3), .val (.long q4), .second, .unset] [(.ref o0), (.int n)])) rfl rfl (hb hby d3_5)
  have K6 : Steps p.tables e below _ (T5.setTop (mkF m 8 #[.val (.ref o0), .val (.int p1), .val (.long q2), .second, .val (.int p3), .val (.long q4), .second, .unset] [(.ref fa), (.int n)])) := K4.trans (st5 _ (Steps.refl _))
  have K8 : Steps p.tables e below _ (T5.setTop (mkF m 9 #[.val (.ref o0), .val (.int p1), .val (.long q2), .second, .val (.int p3), .val (.long q4), .second, .unset] [(.int z), (.int n)])) := K6.trans (by
    show Steps p.tables e below (T5.setTop (mkF m 8 #[.val (.ref o0), .val (.int p1), .val (.long q2), .second, .val (.int p3), .val (.long q4), .second, .unset] [(.ref fa), (.int n)])) _
    refine (own_len X5 hx hZ e5 V_fa (g := (mkF m 8 #[.val (.ref o0), .val (.int p1), .val (.long q2), .second, .val (.int p3), .val (.long q4), .second, .unset] [(.ref fa), (.int n)])) rfl rfl (hb hby d3_8)).trans ?_
    show Steps p.tables e below (T5.setTop (mkF m 9 #[.val (.ref o0), .val (.int p1), .val (.long q2), .second, .val (.int p3), .val (.long q4), .second, .unset] [(.int z), (.int n)])) _
    exact Steps.refl _)
  have hc9_6 : n = z := hnz
  have K9 : Steps p.tables e below _ (T5.setTop (mkF m 15 #[.val (.ref o0), .val (.int p1), .val (.long q2), .second, .val (.int p3), .val (.long q4), .second, .unset] [(.ref o0), (.int (8 : Int32))])) := K8.trans (by
    show Steps p.tables e below (T5.setTop (mkF m 9 #[.val (.ref o0), .val (.int p1), .val (.long q2), .second, .val (.int p3), .val (.long q4), .second, .unset] [(.int z), (.int n)])) _
    refine XS.icmpNo X5.here hx rfl (hb hby d3_9) rfl (teq hc9_6).2 ?_
    show Steps p.tables e below (T5.setTop (mkF m 12 #[.val (.ref o0), .val (.int p1), .val (.long q2), .second, .val (.int p3), .val (.long q4), .second, .unset] [])) _
    refine XS.bipush X5.here hx rfl (hb hby d3_12) ?_
    show Steps p.tables e below (T5.setTop (mkF m 14 #[.val (.ref o0), .val (.int p1), .val (.long q2), .second, .val (.int p3), .val (.long q4), .second, .unset] [(.int (8 : Int32))])) _
    refine XS.aloadN X5.here hx rfl (hb hby d3_14) rfl rfl ?_
    show Steps p.tables e below (T5.setTop (mkF m 15 #[.val (.ref o0), .val (.int p1), .val (.long q2), .second, .val (.int p3), .val (.long q4), .second, .unset] [(.ref o0), (.int (8 : Int32))])) _
    exact Steps.refl _)
  obtain ⟨T10, X10, e10, st10⟩ := getF X5 hx hZ hown (host := "") (Or.inl (hw _ (List.mem_of_getElem? (i := 22) rfl))) Via.refl e5 F_size_o0 (g := (mkF m 15 #[.val (.ref o0), .val (.int p1), .val (.long q2), .second, .val (.int p3), .val (.long q4), .second, .unset] [(.ref o0), (.int (8 : Int32))])) rfl rfl (hb hby d3_15)
  have K11 : Steps p.tables e below _ (T10.setTop (mkF m 18 #[.val (.ref o0), .val (.int p1), .val (.long q2), .second, .val (.int p3), .val (.long q4), .second, .unset] [(.int n), (.int (8 : Int32))])) := K9.trans (st10 _ (Steps.refl _))
  have K12 : Steps p.tables e below _ (T10.setTop (mkF m 20 #[.val (.ref o0), .val (.int p1), .val (.long q2), .second, .val (.int p3), .val (.long q4), .second, .unset] [(.int (n * (2 : Int32))), (.int (8 : Int32))])) := K11.trans (by
    show Steps p.tables e below (T10.setTop (mkF m 18 #[.val (.ref o0), .val (.int p1), .val (.long q2), .second, .val (.int p3), .val (.long q4), .second, .unset] [(.int n), (.int (8 : Int32))])) _
    refine XS.iconst X10.here hx rfl (hb hby d3_18) ?_
    show Steps p.tables e below (T10.setTop (mkF m 19 #[.val (.ref o0), .val (.int p1), .val (.long q2), .second, .val (.int p3), .val (.long q4), .second, .unset] [(.int (2 : Int32)), (.int n), (.int (8 : Int32))])) _
    refine XS.imul X10.here hx rfl (hb hby d3_19) rfl ?_
    show Steps p.tables e below (T10.setTop (mkF m 20 #[.val (.ref o0), .val (.int p1), .val (.long q2), .second, .val (.int p3), .val (.long q4), .second, .unset] [(.int (n * (2 : Int32))), (.int (8 : Int32))])) _
    exact Steps.refl _)
  obtain ⟨_, _, ⟨T13, L13, k13, n13⟩, -, X13, ⟨Lc13, hQ13, l13, y13, z13⟩, st13⟩ := Jvm.LawKit.callS X10 hx (y := (⟨"java/lang/Math", "max", "(II)I"⟩ : MethodName)) hown (mvT hZ (hw _ (List.mem_of_getElem? (i := 24) rfl))) (mvT hZ (hw _ (List.mem_of_getElem? (i := 25) rfl))) (mvT hZ (hw _ (List.mem_of_getElem? (i := 26) rfl))) (mvT hZ (hw _ (List.mem_of_getElem? (i := 27) rfl))) (by decide) (backOf (W := 0) (rm4 l Z a0 hw [] (8 : Int32) (n * (2 : Int32)) h0 n0 Z0 ) hZ (hw _ (List.mem_of_getElem? (i := 27) rfl)) (hw _ (List.mem_of_getElem? (i := 26) rfl)) (by decide) (by decide)) (g := (mkF m 20 #[.val (.ref o0), .val (.int p1), .val (.long q2), .second, .val (.int p3), .val (.long q4), .second, .unset] [(.int (n * (2 : Int32))), (.int (8 : Int32))])) rfl (by rw [hml]; rfl) (argsL := [(.int (8 : Int32)), (.int (n * (2 : Int32)))]) (rest := []) (lenOf pd_0 rfl) rfl (by show 2 * 0 + _ ≤ _; exact Nat.le_of_eq rfl) (hb hby d3_20) (fun _ _ => ⟨rfl, e10, (by decide : 0 + 0 ≤ _), (by decide : 0 + 0 ≤ _)⟩)
  dsimp only [Pt.U, Pt.locs, Pt.cells, Pt.slots] at X13 l13 y13 z13 st13 hQ13
  subst l13 y13 z13
  obtain ⟨rfl, N13, eh13⟩ := hQ13
  have N13' := Fr.app N0 N13
  have K14 : Steps p.tables e below _ (T13.setTop (mkF m 23 #[.val (.ref o0), .val (.int p1), .val (.long q2), .second, .val (.int p3), .val (.long q4), .second, .unset] [(.int (if (8 : Int32) < (n * (2 : Int32)) then (n * (2 : Int32)) else (8 : Int32)))])) := K12.trans (st13 _ (Steps.refl _))
  rw [show (if (8 : Int32) < (n * (2 : Int32)) then (n * (2 : Int32)) else (8 : Int32)) = (8 : Int32) from hm] at K14
  have K15 : Steps p.tables e below _ (T13.setTop (mkF m 27 #[.val (.ref o0), .val (.int p1), .val (.long q2), .second, .val (.int p3), .val (.long q4), .second, .val (.int (8 : Int32))] [(.ref o0), (.ref o0)])) := K14.trans (by
    show Steps p.tables e below (T13.setTop (mkF m 23 #[.val (.ref o0), .val (.int p1), .val (.long q2), .second, .val (.int p3), .val (.long q4), .second, .unset] [(.int (8 : Int32))])) _
    refine XS.istore X13.here hx rfl (hb hby d3_23) rfl (l' := #[.val (.ref o0), .val (.int p1), .val (.long q2), .second, .val (.int p3), .val (.long q4), .second, .val (.int (8 : Int32))]) rfl ?_
    show Steps p.tables e below (T13.setTop (mkF m 25 #[.val (.ref o0), .val (.int p1), .val (.long q2), .second, .val (.int p3), .val (.long q4), .second, .val (.int (8 : Int32))] [])) _
    refine XS.aloadN X13.here hx rfl (hb hby d3_25) rfl rfl ?_
    show Steps p.tables e below (T13.setTop (mkF m 26 #[.val (.ref o0), .val (.int p1), .val (.long q2), .second, .val (.int p3), .val (.long q4), .second, .val (.int (8 : Int32))] [(.ref o0)])) _
    refine XS.aloadN X13.here hx rfl (hb hby d3_26) rfl rfl ?_
    show Steps p.tables e below (T13.setTop (mkF m 27 #[.val (.ref o0), .val (.int p1), .val (.long q2), .second, .val (.int p3), .val (.long q4), .second, .val (.int (8 : Int32))] [(.ref o0), (.ref o0)])) _
    exact Steps.refl _)
  obtain ⟨T16, X16, e16, st16⟩ := getF X13 hx hZ hown (host := "") (Or.inl (hw _ (List.mem_of_getElem? (i := 10) rfl))) Via.refl eh13 F_froms_o0 (g := (mkF m 27 #[.val (.ref o0), .val (.int p1), .val (.long q2), .second, .val (.int p3), .val (.long q4), .second, .val (.int (8 : Int32))] [(.ref o0), (.ref o0)])) rfl rfl (hb hby d3_27)
  have K17 : Steps p.tables e below _ (T16.setTop (mkF m 30 #[.val (.ref o0), .val (.int p1), .val (.long q2), .second, .val (.int p3), .val (.long q4), .second, .val (.int (8 : Int32))] [(.ref fa), (.ref o0)])) := K15.trans (st16 _ (Steps.refl _))
  have K18 : Steps p.tables e below _ (T16.setTop (mkF m 32 #[.val (.ref o0), .val (.int p1), .val (.long q2), .second, .val (.int p3), .val (.long q4), .second, .val (.int (8 : Int32))] [(.int (8 : Int32)), (.ref fa), (.ref o0)])) := K17.trans (by
    show Steps p.tables e below (T16.setTop (mkF m 30 #[.val (.ref o0), .val (.int p1), .val (.long q2), .second, .val (.int p3), .val (.long q4), .second, .val (.int (8 : Int32))] [(.ref fa), (.ref o0)])) _
    refine XS.iload X16.here hx rfl (hb hby d3_30) rfl ?_
    show Steps p.tables e below (T16.setTop (mkF m 32 #[.val (.ref o0), .val (.int p1), .val (.long q2), .second, .val (.int p3), .val (.long q4), .second, .val (.int (8 : Int32))] [(.int (8 : Int32)), (.ref fa), (.ref o0)])) _
    exact Steps.refl _)
  obtain ⟨_, _, ⟨T19, L19, k19, n19⟩, -, X19, ⟨Lc19, hQ19, l19, y19, z19⟩, st19⟩ := Jvm.LawKit.callS X16 hx (y := (⟨"java/util/Arrays", "copyOf", "([JI)[J"⟩ : MethodName)) hown (mvT hZ (hw _ (List.mem_of_getElem? (i := 28) rfl))) (mvT hZ (hw _ (List.mem_of_getElem? (i := 29) rfl))) (mvT hZ (hw _ (List.mem_of_getElem? (i := 30) rfl))) (mvT hZ (hw _ (List.mem_of_getElem? (i := 31) rfl))) (by decide) (backOf (W := 1) (rm5 l Z a0 hw [] fa kf z vf h0 n0 Z0 V_fa (⟨hq, hz8⟩) (hzn)) hZ (hw _ (List.mem_of_getElem? (i := 31) rfl)) (hw _ (List.mem_of_getElem? (i := 30) rfl)) (by decide) (by decide)) (g := (mkF m 32 #[.val (.ref o0), .val (.int p1), .val (.long q2), .second, .val (.int p3), .val (.long q4), .second, .val (.int (8 : Int32))] [(.int (8 : Int32)), (.ref fa), (.ref o0)])) rfl (by rw [hml]; rfl) (argsL := [(.ref fa), (.int (8 : Int32))]) (rest := [(.ref o0)]) (lenOf pd_2 rfl) rfl (by show 2 * 0 + _ ≤ _; exact Nat.le_of_eq rfl) (hb hby d3_32) (fun _ _ => ⟨rfl, e16, (by decide : 0 + 1 ≤ _), (by decide : 0 + 8 ≤ _)⟩)
  dsimp only [Pt.U, Pt.locs, Pt.cells, Pt.slots] at X19 l19 y19 z19 st19 hQ19
  subst l19 y19 z19
  obtain ⟨b19_b4, k4_19, rfl, N19, Kp19, Q19_0, Q19_1, sz19_b4⟩ := hQ19
  have ne_o0_b19_b4 : o0 ≠ b19_b4 := Nat.ne_of_lt (Nat.lt_of_lt_of_le E_o0.lt sz19_b4)
  have ne_fa_b19_b4 : fa ≠ b19_b4 := Nat.ne_of_lt (Nat.lt_of_lt_of_le V_fa.lt sz19_b4)
  have ne_ta_b19_b4 : ta ≠ b19_b4 := Nat.ne_of_lt (Nat.lt_of_lt_of_le V_ta.lt sz19_b4)
  have ne_ea_b19_b4 : ea ≠ b19_b4 := Nat.ne_of_lt (Nat.lt_of_lt_of_le V_ea.lt sz19_b4)
  have ge_b19_b4 : n0 ≤ b19_b4 := Nat.le_trans Z0 sz19_b4
  have sz_b19_b4 : h0.size ≤ b19_b4 := Nat.le_trans Kp0.1 sz19_b4
  have N19' := Fr.app N13' N19
  have K20 : Steps p.tables e below _ (T19.setTop (mkF m 35 #[.val (.ref o0), .val (.int p1), .val (.long q2), .second, .val (.int p3), .val (.long q4), .second, .val (.int (8 : Int32))] [(.ref b19_b4), (.ref o0)])) := K18.trans (st19 _ (Steps.refl _))
  have E_21 : Exa Z T19.heap o0 "com/example/spanfold/spanfold/RangeList" := (E_o0.keep Kp19)
  have F_22 : Fld Z T19.heap o0 "com/example/spanfold/spanfold/RangeList" "froms" "[J" (.ref fa) := (F_froms_o0.keep Kp19 nin0)
  obtain ⟨T23, h23, X23, e23, W23, st23⟩ := putF X19 hx hZ hown (host := "") (Or.inl (hw _ (List.mem_of_getElem? (i := 10) rfl))) Via.refl rfl F_22 E_21 (Or.inl (hw _ (List.mem_of_getElem? (i := 11) rfl))) (hw _ (List.mem_of_getElem? (i := 1) rfl)) (ty := (.array .long)) (by decide) rfl rfl (g := (mkF m 35 #[.val (.ref o0), .val (.int p1), .val (.long q2), .second, .val (.int p3), .val (.long q4), .second, .val (.int (8 : Int32))] [(.ref b19_b4), (.ref o0)])) rfl rfl (hb hby d3_35)
  have K24 : Steps p.tables e below _ (T23.setTop (mkF m 38 #[.val (.ref o0), .val (.int p1), .val (.long q2), .second, .val (.int p3), .val (.long q4), .second, .val (.int (8 : Int32))] [])) := K20.trans (st23 _ (Steps.refl _))
  have Fw23 : Fld Z h23 o0 "com/example/spanfold/spanfold/RangeList" "froms" "[J" (.ref b19_b4) := F_22.same W23
  have N23 := Fr.snoc X23 N19' g_o0
  have K25 : Steps p.tables e below _ (T23.setTop (mkF m 40 #[.val (.ref o0), .val (.int p1), .val (.long q2), .second, .val (.int p3), .val (.long q4), .second, .val (.int (8 : Int32))] [(.ref o0), (.ref o0)])) := K24.trans (by
    show Steps p.tables e below (T23.setTop (mkF m 38 #[.val (.ref o0), .val (.int p1), .val (.long q2), .second, .val (.int p3), .val (.long q4), .second, .val (.int (8 : Int32))] [])) _
    refine XS.aloadN X23.here hx rfl (hb hby d3_38) rfl rfl ?_
    show Steps p.tables e below (T23.setTop (mkF m 39 #[.val (.ref o0), .val (.int p1), .val (.long q2), .second, .val (.int p3), .val (.long q4), .second, .val (.int (8 : Int32))] [(.ref o0)])) _
    refine XS.aloadN X23.here hx rfl (hb hby d3_39) rfl rfl ?_
    show Steps p.tables e below (T23.setTop (mkF m 40 #[.val (.ref o0), .val (.int p1), .val (.long q2), .second, .val (.int p3), .val (.long q4), .second, .val (.int (8 : Int32))] [(.ref o0), (.ref o0)])) _
    exact Steps.refl _)
  have F_26 : Fld Z h23 o0 "com/example/spanfold/spanfold/RangeList" "tos" "[J" (.ref ta) := ((F_tos_o0.keep Kp19 nin0).other W23 (Or.inr (slot_ne (Or.inl (hw _ (List.mem_of_getElem? (i := 13) rfl))) (Or.inl (hw _ (List.mem_of_getElem? (i := 11) rfl))) (by decide) (t := (.array .long)) (t' := (.array .long)) (by decide) (by decide))))
  obtain ⟨T27, X27, e27, st27⟩ := getF X23 hx hZ hown (host := "") (Or.inl (hw _ (List.mem_of_getElem? (i := 12) rfl))) Via.refl e23 F_26 (g := (mkF m 40 #[.val (.ref o0), .val (.int p1), .val (.long q2), .second, .val (.int p3), .val (.long q4), .second, .val (.int (8 : Int32))] [(.ref o0), (.ref o0)])) rfl rfl (hb hby d3_40)
  have K28 : Steps p.tables e below _ (T27.setTop (mkF m 43 #[.val (.ref o0), .val (.int p1), .val (.long q2), .second, .val (.int p3), .val (.long q4), .second, .val (.int (8 : Int32))] [(.ref ta), (.ref o0)])) := K25.trans (st27 _ (Steps.refl _))
  have K29 : Steps p.tables e below _ (T27.setTop (mkF m 45 #[.val (.ref o0), .val (.int p1), .val (.long q2), .second, .val (.int p3), .val (.long q4), .second, .val (.int (8 : Int32))] [(.int (8 : Int32)), (.ref ta), (.ref o0)])) := K28.trans (by
    show Steps p.tables e below (T27.setTop (mkF m 43 #[.val (.ref o0), .val (.int p1), .val (.long q2), .second, .val (.int p3), .val (.long q4), .second, .val (.int (8 : Int32))] [(.ref ta), (.ref o0)])) _
    refine XS.iload X27.here hx rfl (hb hby d3_43) rfl ?_
    show Steps p.tables e below (T27.setTop (mkF m 45 #[.val (.ref o0), .val (.int p1), .val (.long q2), .second, .val (.int p3), .val (.long q4), .second, .val (.int (8 : Int32))] [(.int (8 : Int32)), (.ref ta), (.ref o0)])) _
    exact Steps.refl _)
  have Z_30 : n0 ≤ h23.size := (Nat.le_trans (Nat.le_trans Z0 Kp19.1) (Keep.of_wr W23).1)
  have V_31 : Arv Z h23 ta kt .long z vt (.long (0 : Int64)) := ((V_ta.keep Kp19 nin0).other W23 (Ne.symm ne_o0_ta))
  obtain ⟨_, _, ⟨T32, L32, k32, n32⟩, -, X32, ⟨Lc32, hQ32, l32, y32, z32⟩, st32⟩ := Jvm.LawKit.callS X27 hx (y := (⟨"java/util/Arrays", "copyOf", "([JI)[J"⟩ : MethodName)) hown (mvT hZ (hw _ (List.mem_of_getElem? (i := 28) rfl))) (mvT hZ (hw _ (List.mem_of_getElem? (i := 29) rfl))) (mvT hZ (hw _ (List.mem_of_getElem? (i := 30) rfl))) (mvT hZ (hw _ (List.mem_of_getElem? (i := 31) rfl))) (by decide) (backOf (W := 1) (rm5 l Z a0 hw [] ta kt z vt h23 n0 Z_30 V_31 (⟨hq, hz8⟩) (hzn)) hZ (hw _ (List.mem_of_getElem? (i := 31) rfl)) (hw _ (List.mem_of_getElem? (i := 30) rfl)) (by decide) (by decide)) (g := (mkF m 45 #[.val (.ref o0), .val (.int p1), .val (.long q2), .second, .val (.int p3), .val (.long q4), .second, .val (.int (8 : Int32))] [(.int (8 : Int32)), (.ref ta), (.ref o0)])) rfl (by rw [hml]; rfl) (argsL := [(.ref ta), (.int (8 : Int32))]) (rest := [(.ref o0)]) (lenOf pd_2 rfl) rfl (by show 2 * 0 + _ ≤ _; exact Nat.le_of_eq rfl) (hb hby d3_45) (fun _ _ => ⟨rfl, e27, (by decide : 1 + 1 ≤ _), (by decide : 8 + 8 ≤ _)⟩)
  dsimp only [Pt.U, Pt.locs, Pt.cells, Pt.slots] at X32 l32 y32 z32 st32 hQ32
  subst l32 y32 z32
  obtain ⟨b32_b4, k4_32, rfl, N32, Kp32, Q32_0, Q32_1, sz32_b4⟩ := hQ32
  have E_33 : Exa Z h23 o0 "com/example/spanfold/spanfold/RangeList" := (E_21.wr W23)
  have ne_o0_b32_b4 : o0 ≠ b32_b4 := Nat.ne_of_lt (Nat.lt_of_lt_of_le E_33.lt sz32_b4)
  have V_34 : Arv Z h23 fa kf .long z vf (.long (0 : Int64)) := ((V_fa.keep Kp19 nin0).other W23 (Ne.symm ne_o0_fa))
  have ne_fa_b32_b4 : fa ≠ b32_b4 := Nat.ne_of_lt (Nat.lt_of_lt_of_le V_34.lt sz32_b4)
  have ne_ta_b32_b4 : ta ≠ b32_b4 := Nat.ne_of_lt (Nat.lt_of_lt_of_le V_31.lt sz32_b4)
  have V_35 : Arv Z h23 ea ke .byte z ve (.int (0 : Int32)) := ((V_ea.keep Kp19 nin0).other W23 (Ne.symm ne_o0_ea))
  have ne_ea_b32_b4 : ea ≠ b32_b4 := Nat.ne_of_lt (Nat.lt_of_lt_of_le V_35.lt sz32_b4)
  have E_36 : Exa Z h23 b19_b4 "[J" := (Q19_0.wr W23)
  have ne_b19_b4_b32_b4 : b19_b4 ≠ b32_b4 := Nat.ne_of_lt (Nat.lt_of_lt_of_le E_36.lt sz32_b4)
  have ge_b32_b4 : n0 ≤ b32_b4 := Nat.le_trans Z_30 sz32_b4
  have K_37 : Keep h0 h23 [o0] := ((Kp0.trans Kp19 all0).wr W23 (Or.inl (List.mem_of_getElem? (i := 0) rfl)))
  have sz_b32_b4 : h0.size ≤ b32_b4 := Nat.le_trans K_37.1 sz32_b4
  have N32' := Fr.app N23 N32
  have K38 : Steps p.tables e below _ (T32.setTop (mkF m 48 #[.val (.ref o0), .val (.int p1), .val (.long q2), .second, .val (.int p3), .val (.long q4), .second, .val (.int (8 : Int32))] [(.ref b32_b4), (.ref o0)])) := K29.trans (st32 _ (Steps.refl _))
  have E_39 : Exa Z T32.heap o0 "com/example/spanfold/spanfold/RangeList" := (E_33.keep Kp32)
  have F_40 : Fld Z T32.heap o0 "com/example/spanfold/spanfold/RangeList" "tos" "[J" (.ref ta) := (F_26.keep Kp32 nin0)
  obtain ⟨T41, h41, X41, e41, W41, st41⟩ := putF X32 hx hZ hown (host := "") (Or.inl (hw _ (List.mem_of_getElem? (i := 12) rfl))) Via.refl rfl F_40 E_39 (Or.inl (hw _ (List.mem_of_getElem? (i := 13) rfl))) (hw _ (List.mem_of_getElem? (i := 1) rfl)) (ty := (.array .long)) (by decide) rfl rfl (g := (mkF m 48 #[.val (.ref o0), .val (.int p1), .val (.long q2), .second, .val (.int p3), .val (.long q4), .second, .val (.int (8 : Int32))] [(.ref b32_b4), (.ref o0)])) rfl rfl (hb hby d3_48)
  have K42 : Steps p.tables e below _ (T41.setTop (mkF m 51 #[.val (.ref o0), .val (.int p1), .val (.long q2), .second, .val (.int p3), .val (.long q4), .second, .val (.int (8 : Int32))] [])) := K38.trans (st41 _ (Steps.refl _))
  have Fw41 : Fld Z h41 o0 "com/example/spanfold/spanfold/RangeList" "tos" "[J" (.ref b32_b4) := F_40.same W41
  have N41 := Fr.snoc X41 N32' g_o0
  have K43 : Steps p.tables e below _ (T41.setTop (mkF m 53 #[.val (.ref o0), .val (.int p1), .val (.long q2), .second, .val (.int p3), .val (.long q4), .second, .val (.int (8 : Int32))] [(.ref o0), (.ref o0)])) := K42.trans (by
    show Steps p.tables e below (T41.setTop (mkF m 51 #[.val (.ref o0), .val (.int p1), .val (.long q2), .second, .val (.int p3), .val (.long q4), .second, .val (.int (8 : Int32))] [])) _
    refine XS.aloadN X41.here hx rfl (hb hby d3_51) rfl rfl ?_
    show Steps p.tables e below (T41.setTop (mkF m 52 #[.val (.ref o0), .val (.int p1), .val (.long q2), .second, .val (.int p3), .val (.long q4), .second, .val (.int (8 : Int32))] [(.ref o0)])) _
    refine XS.aloadN X41.here hx rfl (hb hby d3_52) rfl rfl ?_
    show Steps p.tables e below (T41.setTop (mkF m 53 #[.val (.ref o0), .val (.int p1), .val (.long q2), .second, .val (.int p3), .val (.long q4), .second, .val (.int (8 : Int32))] [(.ref o0), (.ref o0)])) _
    exact Steps.refl _)
  have F_44 : Fld Z h41 o0 "com/example/spanfold/spanfold/RangeList" "ends" "[B" (.ref ea) := ((((F_ends_o0.keep Kp19 nin0).other W23 (Or.inr (slot_ne (Or.inl (hw _ (List.mem_of_getElem? (i := 16) rfl))) (Or.inl (hw _ (List.mem_of_getElem? (i := 11) rfl))) (by decide) (t := (.array .byte)) (t' := (.array .long)) (by decide) (by decide)))).keep Kp32 nin0).other W41 (Or.inr (slot_ne (Or.inl (hw _ (List.mem_of_getElem? (i := 16) rfl))) (Or.inl (hw _ (List.mem_of_getElem? (i := 13) rfl))) (by decide) (t := (.array .byte)) (t' := (.array .long)) (by decide) (by decide))))
  obtain ⟨T45, X45, e45, st45⟩ := getF X41 hx hZ hown (host := "") (Or.inl (hw _ (List.mem_of_getElem? (i := 15) rfl))) Via.refl e41 F_44 (g := (mkF m 53 #[.val (.ref o0), .val (.int p1), .val (.long q2), .second, .val (.int p3), .val (.long q4), .second, .val (.int (8 : Int32))] [(.ref o0), (.ref o0)])) rfl rfl (hb hby d3_53)
  have K46 : Steps p.tables e below _ (T45.setTop (mkF m 56 #[.val (.ref o0), .val (.int p1), .val (.long q2), .second, .val (.int p3), .val (.long q4), .second, .val (.int (8 : Int32))] [(.ref ea), (.ref o0)])) := K43.trans (st45 _ (Steps.refl _))
  have K47 : Steps p.tables e below _ (T45.setTop (mkF m 58 #[.val (.ref o0), .val (.int p1), .val (.long q2), .second, .val (.int p3), .val (.long q4), .second, .val (.int (8 : Int32))] [(.int (8 : Int32)), (.ref ea), (.ref o0)])) := K46.trans (by
    show Steps p.tables e below (T45.setTop (mkF m 56 #[.val (.ref o0), .val (.int p1), .val (.long q2), .second, .val (.int p3), .val (.long q4), .second, .val (.int (8 : Int32))] [(.ref ea), (.ref o0)])) _
    refine XS.iload X45.here hx rfl (hb hby d3_56) rfl ?_
    show Steps p.tables e below (T45.setTop (mkF m 58 #[.val (.ref o0), .val (.int p1), .val (.long q2), .second, .val (.int p3), .val (.long q4), .second, .val (.int (8 : Int32))] [(.int (8 : Int32)), (.ref ea), (.ref o0)])) _
    exact Steps.refl _)
  have Z_48 : n0 ≤ h41.size := (Nat.le_trans (Nat.le_trans Z_30 Kp32.1) (Keep.of_wr W41).1)
  have V_49 : Arv Z h41 ea ke .byte z ve (.int (0 : Int32)) := ((V_35.keep Kp32 nin0).other W41 (Ne.symm ne_o0_ea))
  obtain ⟨_, _, ⟨T50, L50, k50, n50⟩, -, X50, ⟨Lc50, hQ50, l50, y50, z50⟩, st50⟩ := Jvm.LawKit.callS X45 hx (y := (⟨"java/util/Arrays", "copyOf", "([BI)[B"⟩ : MethodName)) hown (mvT hZ (hw _ (List.mem_of_getElem? (i := 39) rfl))) (mvT hZ (hw _ (List.mem_of_getElem? (i := 40) rfl))) (mvT hZ (hw _ (List.mem_of_getElem? (i := 30) rfl))) (mvT hZ (hw _ (List.mem_of_getElem? (i := 41) rfl))) (by decide) (backOf (W := 1) (rm7 l Z a0 hw [] ea ke z ve h41 n0 Z_48 V_49 (⟨hq, hz8⟩) (hzn)) hZ (hw _ (List.mem_of_getElem? (i := 41) rfl)) (hw _ (List.mem_of_getElem? (i := 30) rfl)) (by decide) (by decide)) (g := (mkF m 58 #[.val (.ref o0), .val (.int p1), .val (.long q2), .second, .val (.int p3), .val (.long q4), .second, .val (.int (8 : Int32))] [(.int (8 : Int32)), (.ref ea), (.ref o0)])) rfl (by rw [hml]; rfl) (argsL := [(.ref ea), (.int (8 : Int32))]) (rest := [(.ref o0)]) (lenOf pd_3 rfl) rfl (by show 2 * 0 + _ ≤ _; exact Nat.le_of_eq rfl) (hb hby d3_58) (fun _ _ => ⟨rfl, e45, (by decide : 2 + 1 ≤ _), (by decide : 16 + 8 ≤ _)⟩)
  dsimp only [Pt.U, Pt.locs, Pt.cells, Pt.slots] at X50 l50 y50 z50 st50 hQ50
  subst l50 y50 z50
  obtain ⟨b50_b4, k4_50, rfl, N50, Kp50, Q50_0, Q50_1, sz50_b4⟩ := hQ50
  have E_51 : Exa Z h41 o0 "com/example/spanfold/spanfold/RangeList" := (E_39.wr W41)
  have ne_o0_b50_b4 : o0 ≠ b50_b4 := Nat.ne_of_lt (Nat.lt_of_lt_of_le E_51.lt sz50_b4)
  have V_52 : Arv Z h41 fa kf .long z vf (.long (0 : Int64)) := ((V_34.keep Kp32 nin0).other W41 (Ne.symm ne_o0_fa))
  have ne_fa_b50_b4 : fa ≠ b50_b4 := Nat.ne_of_lt (Nat.lt_of_lt_of_le V_52.lt sz50_b4)
  have V_53 : Arv Z h41 ta kt .long z vt (.long (0 : Int64)) := ((V_31.keep Kp32 nin0).other W41 (Ne.symm ne_o0_ta))
  have ne_ta_b50_b4 : ta ≠ b50_b4 := Nat.ne_of_lt (Nat.lt_of_lt_of_le V_53.lt sz50_b4)
  have ne_ea_b50_b4 : ea ≠ b50_b4 := Nat.ne_of_lt (Nat.lt_of_lt_of_le V_49.lt sz50_b4)
  have E_54 : Exa Z h41 b19_b4 "[J" := ((E_36.keep Kp32).wr W41)
  have ne_b19_b4_b50_b4 : b19_b4 ≠ b50_b4 := Nat.ne_of_lt (Nat.lt_of_lt_of_le E_54.lt sz50_b4)
  have E_55 : Exa Z h41 b32_b4 "[J" := (Q32_0.wr W41)
  have ne_b32_b4_b50_b4 : b32_b4 ≠ b50_b4 := Nat.ne_of_lt (Nat.lt_of_lt_of_le E_55.lt sz50_b4)
  have ge_b50_b4 : n0 ≤ b50_b4 := Nat.le_trans Z_48 sz50_b4
  have K_56 : Keep h0 h41 [o0] := ((K_37.trans Kp32 all0).wr W41 (Or.inl (List.mem_of_getElem? (i := 0) rfl)))
  have sz_b50_b4 : h0.size ≤ b50_b4 := Nat.le_trans K_56.1 sz50_b4
  have N50' := Fr.app N41 N50
  have K57 : Steps p.tables e below _ (T50.setTop (mkF m 61 #[.val (.ref o0), .val (.int p1), .val (.long q2), .second, .val (.int p3), .val (.long q4), .second, .val (.int (8 : Int32))] [(.ref b50_b4), (.ref o0)])) := K47.trans (st50 _ (Steps.refl _))
  have E_58 : Exa Z T50.heap o0 "com/example/spanfold/spanfold/RangeList" := (E_51.keep Kp50)
  have F_59 : Fld Z T50.heap o0 "com/example/spanfold/spanfold/RangeList" "ends" "[B" (.ref ea) := (F_44.keep Kp50 nin0)
  obtain ⟨T60, h60, X60, e60, W60, st60⟩ := putF X50 hx hZ hown (host := "") (Or.inl (hw _ (List.mem_of_getElem? (i := 15) rfl))) Via.refl rfl F_59 E_58 (Or.inl (hw _ (List.mem_of_getElem? (i := 16) rfl))) (hw _ (List.mem_of_getElem? (i := 1) rfl)) (ty := (.array .byte)) (by decide) rfl rfl (g := (mkF m 61 #[.val (.ref o0), .val (.int p1), .val (.long q2), .second, .val (.int p3), .val (.long q4), .second, .val (.int (8 : Int32))] [(.ref b50_b4), (.ref o0)])) rfl rfl (hb hby d3_61)
  have K61 : Steps p.tables e below _ (T60.setTop (mkF m 64 #[.val (.ref o0), .val (.int p1), .val (.long q2), .second, .val (.int p3), .val (.long q4), .second, .val (.int (8 : Int32))] [])) := K57.trans (st60 _ (Steps.refl _))
  have Fw60 : Fld Z h60 o0 "com/example/spanfold/spanfold/RangeList" "ends" "[B" (.ref b50_b4) := F_59.same W60
  have N60 := Fr.snoc X60 N50' g_o0
  have K62 : Steps p.tables e below _ (T60.setTop (mkF m 65 #[.val (.ref o0), .val (.int p1), .val (.long q2), .second, .val (.int p3), .val (.long q4), .second, .val (.int (8 : Int32))] [(.ref o0)])) := K61.trans (by
    show Steps p.tables e below (T60.setTop (mkF m 64 #[.val (.ref o0), .val (.int p1), .val (.long q2), .second, .val (.int p3), .val (.long q4), .second, .val (.int (8 : Int32))] [])) _
    refine XS.aloadN X60.here hx rfl (hb hby d3_64) rfl rfl ?_
    show Steps p.tables e below (T60.setTop (mkF m 65 #[.val (.ref o0), .val (.int p1), .val (.long q2), .second, .val (.int p3), .val (.long q4), .second, .val (.int (8 : Int32))] [(.ref o0)])) _
    exact Steps.refl _)
  have F_63 : Fld Z h60 o0 "com/example/spanfold/spanfold/RangeList" "froms" "[J" (.ref b19_b4) := ((((Fw23.keep Kp32 nin0).other W41 (Or.inr (slot_ne (Or.inl (hw _ (List.mem_of_getElem? (i := 11) rfl))) (Or.inl (hw _ (List.mem_of_getElem? (i := 13) rfl))) (by decide) (t := (.array .long)) (t' := (.array .long)) (by decide) (by decide)))).keep Kp50 nin0).other W60 (Or.inr (slot_ne (Or.inl (hw _ (List.mem_of_getElem? (i := 11) rfl))) (Or.inl (hw _ (List.mem_of_getElem? (i := 16) rfl))) (by decide) (t := (.array .long)) (t' := (.array .byte)) (by decide) (by decide))))
  obtain ⟨T64, X64, e64, st64⟩ := getF X60 hx hZ hown (host := "") (Or.inl (hw _ (List.mem_of_getElem? (i := 10) rfl))) Via.refl e60 F_63 (g := (mkF m 65 #[.val (.ref o0), .val (.int p1), .val (.long q2), .second, .val (.int p3), .val (.long q4), .second, .val (.int (8 : Int32))] [(.ref o0)])) rfl rfl (hb hby d3_65)
  have K65 : Steps p.tables e below _ (T64.setTop (mkF m 68 #[.val (.ref o0), .val (.int p1), .val (.long q2), .second, .val (.int p3), .val (.long q4), .second, .val (.int (8 : Int32))] [(.ref b19_b4)])) := K62.trans (st64 _ (Steps.refl _))
  have K66 : Steps p.tables e below _ (T64.setTop (mkF m 69 #[.val (.ref o0), .val (.int p1), .val (.long q2), .second, .val (.int p3), .val (.long q4), .second, .val (.int (8 : Int32))] [(.ref o0), (.ref b19_b4)])) := K65.trans (by
    show Steps p.tables e below (T64.setTop (mkF m 68 #[.val (.ref o0), .val (.int p1), .val (.long q2), .second, .val (.int p3), .val (.long q4), .second, .val (.int (8 : Int32))] [(.ref b19_b4)])) _
    refine XS.aloadN X64.here hx rfl (hb hby d3_68) rfl rfl ?_
    show Steps p.tables e below (T64.setTop (mkF m 69 #[.val (.ref o0), .val (.int p1), .val (.long q2), .second, .val (.int p3), .val (.long q4), .second, .val (.int (8 : Int32))] [(.ref o0), (.ref b19_b4)])) _
    exact Steps.refl _)
  have F_67 : Fld Z h60 o0 "com/example/spanfold/spanfold/RangeList" "size" "I" (.int n) := ((((((F_size_o0.keep Kp19 nin0).other W23 (Or.inr (slot_ne (Or.inl (hw _ (List.mem_of_getElem? (i := 23) rfl))) (Or.inl (hw _ (List.mem_of_getElem? (i := 11) rfl))) (by decide) (t := .int) (t' := (.array .long)) (by decide) (by decide)))).keep Kp32 nin0).other W41 (Or.inr (slot_ne (Or.inl (hw _ (List.mem_of_getElem? (i := 23) rfl))) (Or.inl (hw _ (List.mem_of_getElem? (i := 13) rfl))) (by decide) (t := .int) (t' := (.array .long)) (by decide) (by decide)))).keep Kp50 nin0).other W60 (Or.inr (slot_ne (Or.inl (hw _ (List.mem_of_getElem? (i := 23) rfl))) (Or.inl (hw _ (List.mem_of_getElem? (i := 16) rfl))) (by decide) (t := .int) (t' := (.array .byte)) (by decide) (by decide))))
  obtain ⟨T68, X68, e68, st68⟩ := getF X64 hx hZ hown (host := "") (Or.inl (hw _ (List.mem_of_getElem? (i := 22) rfl))) Via.refl e64 F_67 (g := (mkF m 69 #[.val (.ref o0), .val (.int p1), .val (.long q2), .second, .val (.int p3), .val (.long q4), .second, .val (.int (8 : Int32))] [(.ref o0), (.ref b19_b4)])) rfl rfl (hb hby d3_69)
  have K69 : Steps p.tables e below _ (T68.setTop (mkF m 72 #[.val (.ref o0), .val (.int p1), .val (.long q2), .second, .val (.int p3), .val (.long q4), .second, .val (.int (8 : Int32))] [(.int n), (.ref b19_b4)])) := K66.trans (st68 _ (Steps.refl _))
  have K70 : Steps p.tables e below _ (T68.setTop (mkF m 73 #[.val (.ref o0), .val (.int p1), .val (.long q2), .second, .val (.int p3), .val (.long q4), .second, .val (.int (8 : Int32))] [(.int p1), (.int n), (.ref b19_b4)])) := K69.trans (by
    show Steps p.tables e below (T68.setTop (mkF m 72 #[.val (.ref o0), .val (.int p1), .val (.long q2), .second, .val (.int p3), .val (.long q4), .second, .val (.int (8 : Int32))] [(.int n), (.ref b19_b4)])) _
    refine XS.iloadN X68.here hx rfl (hb hby d3_72) rfl ?_
    show Steps p.tables e below (T68.setTop (mkF m 73 #[.val (.ref o0), .val (.int p1), .val (.long q2), .second, .val (.int p3), .val (.long q4), .second, .val (.int (8 : Int32))] [(.int p1), (.int n), (.ref b19_b4)])) _
    exact Steps.refl _)
  obtain ⟨v71_0, hv71_0, S71⟩ : ∃ (v71_0 : Int64), (if p1 = (0 : Int32) then (0 : Int64) else q2) = v71_0 ∧ Steps p.tables e below (T68.setTop (mkF m 73 #[.val (.ref o0), .val (.int p1), .val (.long q2), .second, .val (.int p3), .val (.long q4), .second, .val (.int (8 : Int32))] [(.int p1), (.int n), (.ref b19_b4)])) (T68.setTop (mkF m 81 #[.val (.ref o0), .val (.int p1), .val (.long q2), .second, .val (.int p3), .val (.long q4), .second, .val (.int (8 : Int32))] [(.long v71_0), (.int n), (.ref b19_b4)])) := by
    have R71 : Steps p.tables e below (T68.setTop (mkF m 73 #[.val (.ref o0), .val (.int p1), .val (.long q2), .second, .val (.int p3), .val (.long q4), .second, .val (.int (8 : Int32))] [(.int p1), (.int n), (.ref b19_b4)])) (T68.setTop (mkF m 73 #[.val (.ref o0), .val (.int p1), .val (.long q2), .second, .val (.int p3), .val (.long q4), .second, .val (.int (8 : Int32))] [(.int p1), (.int n), (.ref b19_b4)])) := Steps.refl _
    by_cases hc73 : p1 = (0 : Int32)
    · have K72 : Steps p.tables e below _ (T68.setTop (mkF m 81 #[.val (.ref o0), .val (.int p1), .val (.long q2), .second, .val (.int p3), .val (.long q4), .second, .val (.int (8 : Int32))] [(.long (0 : Int64)), (.int n), (.ref b19_b4)])) := R71.trans (by
        show Steps p.tables e below (T68.setTop (mkF m 73 #[.val (.ref o0), .val (.int p1), .val (.long q2), .second, .val (.int p3), .val (.long q4), .second, .val (.int (8 : Int32))] [(.int p1), (.int n), (.ref b19_b4)])) _
        refine XS.ifYes X68.here hx rfl (pc0 := 73) (pc' := 80) rfl (hb hby d3_73) rfl ((if0 _ _).trans (teq hc73).1) (by decide) (by decide) ?_
        show Steps p.tables e below (T68.setTop (mkF m 80 #[.val (.ref o0), .val (.int p1), .val (.long q2), .second, .val (.int p3), .val (.long q4), .second, .val (.int (8 : Int32))] [(.int n), (.ref b19_b4)])) _
        refine XS.lconst X68.here hx rfl (hb hby d3_80) ?_
        show Steps p.tables e below (T68.setTop (mkF m 81 #[.val (.ref o0), .val (.int p1), .val (.long q2), .second, .val (.int p3), .val (.long q4), .second, .val (.int (8 : Int32))] [(.long (0 : Int64)), (.int n), (.ref b19_b4)])) _
        exact Steps.refl _)
      exact ⟨(0 : Int64), (by rw [if_pos hc73]), K72⟩
    · have K73 : Steps p.tables e below _ (T68.setTop (mkF m 81 #[.val (.ref o0), .val (.int p1), .val (.long q2), .second, .val (.int p3), .val (.long q4), .second, .val (.int (8 : Int32))] [(.long q2), (.int n), (.ref b19_b4)])) := R71.trans (by
        show Steps p.tables e below (T68.setTop (mkF m 73 #[.val (.ref o0), .val (.int p1), .val (.long q2), .second, .val (.int p3), .val (.long q4), .second, .val (.int (8 : Int32))] [(.int p1), (.int n), (.ref b19_b4)])) _
        refine XS.ifNo X68.here hx rfl (hb hby d3_73) rfl ((if0 _ _).trans (feq hc73).1) ?_
        show Steps p.tables e below (T68.setTop (mkF m 76 #[.val (.ref o0), .val (.int p1), .val (.long q2), .second, .val (.int p3), .val (.long q4), .second, .val (.int (8 : Int32))] [(.int n), (.ref b19_b4)])) _
        refine XS.lloadN X68.here hx rfl (hb hby d3_76) rfl ?_
        show Steps p.tables e below (T68.setTop (mkF m 77 #[.val (.ref o0), .val (.int p1), .val (.long q2), .second, .val (.int p3), .val (.long q4), .second, .val (.int (8 : Int32))] [(.long q2), (.int n), (.ref b19_b4)])) _
        refine XS.goto X68.here hx rfl (pc0 := 77) (pc' := 81) rfl (hb hby d3_77) (by decide) (by decide) ?_
        show Steps p.tables e below (T68.setTop (mkF m 81 #[.val (.ref o0), .val (.int p1), .val (.long q2), .second, .val (.int p3), .val (.long q4), .second, .val (.int (8 : Int32))] [(.long q2), (.int n), (.ref b19_b4)])) _
        exact Steps.refl _)
      exact ⟨q2, (by rw [if_neg hc73]), K73⟩
  have K74 := K70.trans S71
  have V_75 : Arv Z h60 b19_b4 k4_19 .long (8 : Int32) (own_cp 8 z.toNatClampNeg vf (.long (0 : Int64))) (.long (0 : Int64)) := (((((Q19_1.other W23 (Ne.symm ne_o0_b19_b4)).keep Kp32 nin0).other W41 (Ne.symm ne_o0_b19_b4)).keep Kp50 nin0).other W60 (Ne.symm ne_o0_b19_b4))
  obtain ⟨T76, h76, X76, e76, W76, V76, st76⟩ := own_stJ X68 hx hZ e68 V_75 (j := n) hq8 i hi (by rw [own_cp_len _ _ _ _ hzn]; exact hlen) (g := (mkF m 81 #[.val (.ref o0), .val (.int p1), .val (.long q2), .second, .val (.int p3), .val (.long q4), .second, .val (.int (8 : Int32))] [(.long v71_0), (.int n), (.ref b19_b4)])) rfl rfl (hb hby d3_81)
  have K77 : Steps p.tables e below _ (T76.setTop (mkF m 82 #[.val (.ref o0), .val (.int p1), .val (.long q2), .second, .val (.int p3), .val (.long q4), .second, .val (.int (8 : Int32))] [])) := K74.trans st76
  have Vw76 : Arv Z h76 b19_b4 k4_19 .long (8 : Int32) ((own_cp 8 z.toNatClampNeg vf (.long (0 : Int64))).set i (.long v71_0)) (.long (0 : Int64)) := V76
  have N76 := Fr.snoc X76 N60 ge_b19_b4
  have K78 : Steps p.tables e below _ (T76.setTop (mkF m 83 #[.val (.ref o0), .val (.int p1), .val (.long q2), .second, .val (.int p3), .val (.long q4), .second, .val (.int (8 : Int32))] [(.ref o0)])) := K77.trans (by
    show Steps p.tables e below (T76.setTop (mkF m 82 #[.val (.ref o0), .val (.int p1), .val (.long q2), .second, .val (.int p3), .val (.long q4), .second, .val (.int (8 : Int32))] [])) _
    refine XS.aloadN X76.here hx rfl (hb hby d3_82) rfl rfl ?_
    show Steps p.tables e below (T76.setTop (mkF m 83 #[.val (.ref o0), .val (.int p1), .val (.long q2), .second, .val (.int p3), .val (.long q4), .second, .val (.int (8 : Int32))] [(.ref o0)])) _
    exact Steps.refl _)
  have F_79 : Fld Z h76 o0 "com/example/spanfold/spanfold/RangeList" "tos" "[J" (.ref b32_b4) := (((Fw41.keep Kp50 nin0).other W60 (Or.inr (slot_ne (Or.inl (hw _ (List.mem_of_getElem? (i := 13) rfl))) (Or.inl (hw _ (List.mem_of_getElem? (i := 16) rfl))) (by decide) (t := (.array .long)) (t' := (.array .byte)) (by decide) (by decide)))).other W76 (Or.inl ne_o0_b19_b4))
  obtain ⟨T80, X80, e80, st80⟩ := getF X76 hx hZ hown (host := "") (Or.inl (hw _ (List.mem_of_getElem? (i := 12) rfl))) Via.refl e76 F_79 (g := (mkF m 83 #[.val (.ref o0), .val (.int p1), .val (.long q2), .second, .val (.int p3), .val (.long q4), .second, .val (.int (8 : Int32))] [(.ref o0)])) rfl rfl (hb hby d3_83)
  have K81 : Steps p.tables e below _ (T80.setTop (mkF m 86 #[.val (.ref o0), .val (.int p1), .val (.long q2), .second, .val (.int p3), .val (.long q4), .second, .val (.int (8 : Int32))] [(.ref b32_b4)])) := K78.trans (st80 _ (Steps.refl _))
  have K82 : Steps p.tables e below _ (T80.setTop (mkF m 87 #[.val (.ref o0), .val (.int p1), .val (.long q2), .second, .val (.int p3), .val (.long q4), .second, .val (.int (8 : Int32))] [(.ref o0), (.ref b32_b4)])) := K81.trans (by
    show Steps p.tables e below (T80.setTop (mkF m 86 #[.val (.ref o0), .val (.int p1), .val (.long q2), .second, .val (.int p3), .val (.long q4), .second, .val (.int (8 : Int32))] [(.ref b32_b4)])) _
    refine XS.aloadN X80.here hx rfl (hb hby d3_86) rfl rfl ?_
    show Steps p.tables e below (T80.setTop (mkF m 87 #[.val (.ref o0), .val (.int p1), .val (.long q2), .second, .val (.int p3), .val (.long q4), .second, .val (.int (8 : Int32))] [(.ref o0), (.ref b32_b4)])) _
    exact Steps.refl _)
  have F_83 : Fld Z h76 o0 "com/example/spanfold/spanfold/RangeList" "size" "I" (.int n) := (F_67.other W76 (Or.inl ne_o0_b19_b4))
  obtain ⟨T84, X84, e84, st84⟩ := getF X80 hx hZ hown (host := "") (Or.inl (hw _ (List.mem_of_getElem? (i := 22) rfl))) Via.refl e80 F_83 (g := (mkF m 87 #[.val (.ref o0), .val (.int p1), .val (.long q2), .second, .val (.int p3), .val (.long q4), .second, .val (.int (8 : Int32))] [(.ref o0), (.ref b32_b4)])) rfl rfl (hb hby d3_87)
  have K85 : Steps p.tables e below _ (T84.setTop (mkF m 90 #[.val (.ref o0), .val (.int p1), .val (.long q2), .second, .val (.int p3), .val (.long q4), .second, .val (.int (8 : Int32))] [(.int n), (.ref b32_b4)])) := K82.trans (st84 _ (Steps.refl _))
  have K86 : Steps p.tables e below _ (T84.setTop (mkF m 92 #[.val (.ref o0), .val (.int p1), .val (.long q2), .second, .val (.int p3), .val (.long q4), .second, .val (.int (8 : Int32))] [(.int p3), (.int n), (.ref b32_b4)])) := K85.trans (by
    show Steps p.tables e below (T84.setTop (mkF m 90 #[.val (.ref o0), .val (.int p1), .val (.long q2), .second, .val (.int p3), .val (.long q4), .second, .val (.int (8 : Int32))] [(.int n), (.ref b32_b4)])) _
    refine XS.iload X84.here hx rfl (hb hby d3_90) rfl ?_
    show Steps p.tables e below (T84.setTop (mkF m 92 #[.val (.ref o0), .val (.int p1), .val (.long q2), .second, .val (.int p3), .val (.long q4), .second, .val (.int (8 : Int32))] [(.int p3), (.int n), (.ref b32_b4)])) _
    exact Steps.refl _)
  obtain ⟨v87_0, hv87_0, S87⟩ : ∃ (v87_0 : Int64), (if p3 = (0 : Int32) then (0 : Int64) else q4) = v87_0 ∧ Steps p.tables e below (T84.setTop (mkF m 92 #[.val (.ref o0), .val (.int p1), .val (.long q2), .second, .val (.int p3), .val (.long q4), .second, .val (.int (8 : Int32))] [(.int p3), (.int n), (.ref b32_b4)])) (T84.setTop (mkF m 101 #[.val (.ref o0), .val (.int p1), .val (.long q2), .second, .val (.int p3), .val (.long q4), .second, .val (.int (8 : Int32))] [(.long v87_0), (.int n), (.ref b32_b4)])) := by
    have R87 : Steps p.tables e below (T84.setTop (mkF m 92 #[.val (.ref o0), .val (.int p1), .val (.long q2), .second, .val (.int p3), .val (.long q4), .second, .val (.int (8 : Int32))] [(.int p3), (.int n), (.ref b32_b4)])) (T84.setTop (mkF m 92 #[.val (.ref o0), .val (.int p1), .val (.long q2), .second, .val (.int p3), .val (.long q4), .second, .val (.int (8 : Int32))] [(.int p3), (.int n), (.ref b32_b4)])) := Steps.refl _
    by_cases hc92 : p3 = (0 : Int32)
    · have K88 : Steps p.tables e below _ (T84.setTop (mkF m 101 #[.val (.ref o0), .val (.int p1), .val (.long q2), .second, .val (.int p3), .val (.long q4), .second, .val (.int (8 : Int32))] [(.long (0 : Int64)), (.int n), (.ref b32_b4)])) := R87.trans (by
        show Steps p.tables e below (T84.setTop (mkF m 92 #[.val (.ref o0), .val (.int p1), .val (.long q2), .second, .val (.int p3), .val (.long q4), .second, .val (.int (8 : Int32))] [(.int p3), (.int n), (.ref b32_b4)])) _
        refine XS.ifYes X84.here hx rfl (pc0 := 92) (pc' := 100) rfl (hb hby d3_92) rfl ((if0 _ _).trans (teq hc92).1) (by decide) (by decide) ?_
        show Steps p.tables e below (T84.setTop (mkF m 100 #[.val (.ref o0), .val (.int p1), .val (.long q2), .second, .val (.int p3), .val (.long q4), .second, .val (.int (8 : Int32))] [(.int n), (.ref b32_b4)])) _
        refine XS.lconst X84.here hx rfl (hb hby d3_100) ?_
        show Steps p.tables e below (T84.setTop (mkF m 101 #[.val (.ref o0), .val (.int p1), .val (.long q2), .second, .val (.int p3), .val (.long q4), .second, .val (.int (8 : Int32))] [(.long (0 : Int64)), (.int n), (.ref b32_b4)])) _
        exact Steps.refl _)
      exact ⟨(0 : Int64), (by rw [if_pos hc92]), K88⟩
    · have K89 : Steps p.tables e below _ (T84.setTop (mkF m 101 #[.val (.ref o0), .val (.int p1), .val (.long q2), .second, .val (.int p3), .val (.long q4), .second, .val (.int (8 : Int32))] [(.long q4), (.int n), (.ref b32_b4)])) := R87.trans (by
        show Steps p.tables e below (T84.setTop (mkF m 92 #[.val (.ref o0), .val (.int p1), .val (.long q2), .second, .val (.int p3), .val (.long q4), .second, .val (.int (8 : Int32))] [(.int p3), (.int n), (.ref b32_b4)])) _
        refine XS.ifNo X84.here hx rfl (hb hby d3_92) rfl ((if0 _ _).trans (feq hc92).1) ?_
        show Steps p.tables e below (T84.setTop (mkF m 95 #[.val (.ref o0), .val (.int p1), .val (.long q2), .second, .val (.int p3), .val (.long q4), .second, .val (.int (8 : Int32))] [(.int n), (.ref b32_b4)])) _
        refine XS.lload X84.here hx rfl (hb hby d3_95) rfl ?_
        show Steps p.tables e below (T84.setTop (mkF m 97 #[.val (.ref o0), .val (.int p1), .val (.long q2), .second, .val (.int p3), .val (.long q4), .second, .val (.int (8 : Int32))] [(.long q4), (.int n), (.ref b32_b4)])) _
        refine XS.goto X84.here hx rfl (pc0 := 97) (pc' := 101) rfl (hb hby d3_97) (by decide) (by decide) ?_
        show Steps p.tables e below (T84.setTop (mkF m 101 #[.val (.ref o0), .val (.int p1), .val (.long q2), .second, .val (.int p3), .val (.long q4), .second, .val (.int (8 : Int32))] [(.long q4), (.int n), (.ref b32_b4)])) _
        exact Steps.refl _)
      exact ⟨q4, (by rw [if_neg hc92]), K89⟩
  have K90 := K86.trans S87
  have V_91 : Arv Z h76 b32_b4 k4_32 .long (8 : Int32) (own_cp 8 z.toNatClampNeg vt (.long (0 : Int64))) (.long (0 : Int64)) := ((((Q32_1.other W41 (Ne.symm ne_o0_b32_b4)).keep Kp50 nin0).other W60 (Ne.symm ne_o0_b32_b4)).other W76 (Ne.symm ne_b19_b4_b32_b4))
  obtain ⟨T92, h92, X92, e92, W92, V92, st92⟩ := own_stJ X84 hx hZ e84 V_91 (j := n) hq8 i hi (by rw [own_cp_len _ _ _ _ hzn]; exact hlen) (g := (mkF m 101 #[.val (.ref o0), .val (.int p1), .val (.long q2), .second, .val (.int p3), .val (.long q4), .second, .val (.int (8 : Int32))] [(.long v87_0), (.int n), (.ref b32_b4)])) rfl rfl (hb hby d3_101)
  have K93 : Steps p.tables e below _ (T92.setTop (mkF m 102 #[.val (.ref o0), .val (.int p1), .val (.long q2), .second, .val (.int p3), .val (.long q4), .second, .val (.int (8 : Int32))] [])) := K90.trans st92
  have Vw92 : Arv Z h92 b32_b4 k4_32 .long (8 : Int32) ((own_cp 8 z.toNatClampNeg vt (.long (0 : Int64))).set i (.long v87_0)) (.long (0 : Int64)) := V92
  have N92 := Fr.snoc X92 N76 ge_b32_b4
  have K94 : Steps p.tables e below _ (T92.setTop (mkF m 103 #[.val (.ref o0), .val (.int p1), .val (.long q2), .second, .val (.int p3), .val (.long q4), .second, .val (.int (8 : Int32))] [(.ref o0)])) := K93.trans (by
    show Steps p.tables e below (T92.setTop (mkF m 102 #[.val (.ref o0), .val (.int p1), .val (.long q2), .second, .val (.int p3), .val (.long q4), .second, .val (.int (8 : Int32))] [])) _
    refine XS.aloadN X92.here hx rfl (hb hby d3_102) rfl rfl ?_
    show Steps p.tables e below (T92.setTop (mkF m 103 #[.val (.ref o0), .val (.int p1), .val (.long q2), .second, .val (.int p3), .val (.long q4), .second, .val (.int (8 : Int32))] [(.ref o0)])) _
    exact Steps.refl _)
  have F_95 : Fld Z h92 o0 "com/example/spanfold/spanfold/RangeList" "ends" "[B" (.ref b50_b4) := ((Fw60.other W76 (Or.inl ne_o0_b19_b4)).other W92 (Or.inl ne_o0_b32_b4))
  obtain ⟨T96, X96, e96, st96⟩ := getF X92 hx hZ hown (host := "") (Or.inl (hw _ (List.mem_of_getElem? (i := 15) rfl))) Via.refl e92 F_95 (g := (mkF m 103 #[.val (.ref o0), .val (.int p1), .val (.long q2), .second, .val (.int p3), .val (.long q4), .second, .val (.int (8 : Int32))] [(.ref o0)])) rfl rfl (hb hby d3_103)
  have K97 : Steps p.tables e below _ (T96.setTop (mkF m 106 #[.val (.ref o0), .val (.int p1), .val (.long q2), .second, .val (.int p3), .val (.long q4), .second, .val (.int (8 : Int32))] [(.ref b50_b4)])) := K94.trans (st96 _ (Steps.refl _))
  have K98 : Steps p.tables e below _ (T96.setTop (mkF m 107 #[.val (.ref o0), .val (.int p1), .val (.long q2), .second, .val (.int p3), .val (.long q4), .second, .val (.int (8 : Int32))] [(.ref o0), (.ref b50_b4)])) := K97.trans (by
    show Steps p.tables e below (T96.setTop (mkF m 106 #[.val (.ref o0), .val (.int p1), .val (.long q2), .second, .val (.int p3), .val (.long q4), .second, .val (.int (8 : Int32))] [(.ref b50_b4)])) _
    refine XS.aloadN X96.here hx rfl (hb hby d3_106) rfl rfl ?_
    show Steps p.tables e below (T96.setTop (mkF m 107 #[.val (.ref o0), .val (.int p1), .val (.long q2), .second, .val (.int p3), .val (.long q4), .second, .val (.int (8 : Int32))] [(.ref o0), (.ref b50_b4)])) _
    exact Steps.refl _)
  have F_99 : Fld Z h92 o0 "com/example/spanfold/spanfold/RangeList" "size" "I" (.int n) := (F_83.other W92 (Or.inl ne_o0_b32_b4))
  obtain ⟨T100, X100, e100, st100⟩ := getF X96 hx hZ hown (host := "") (Or.inl (hw _ (List.mem_of_getElem? (i := 22) rfl))) Via.refl e96 F_99 (g := (mkF m 107 #[.val (.ref o0), .val (.int p1), .val (.long q2), .second, .val (.int p3), .val (.long q4), .second, .val (.int (8 : Int32))] [(.ref o0), (.ref b50_b4)])) rfl rfl (hb hby d3_107)
  have K101 : Steps p.tables e below _ (T100.setTop (mkF m 110 #[.val (.ref o0), .val (.int p1), .val (.long q2), .second, .val (.int p3), .val (.long q4), .second, .val (.int (8 : Int32))] [(.int n), (.ref b50_b4)])) := K98.trans (st100 _ (Steps.refl _))
  have K102 : Steps p.tables e below _ (T100.setTop (mkF m 111 #[.val (.ref o0), .val (.int p1), .val (.long q2), .second, .val (.int p3), .val (.long q4), .second, .val (.int (8 : Int32))] [(.int p1), (.int n), (.ref b50_b4)])) := K101.trans (by
    show Steps p.tables e below (T100.setTop (mkF m 110 #[.val (.ref o0), .val (.int p1), .val (.long q2), .second, .val (.int p3), .val (.long q4), .second, .val (.int (8 : Int32))] [(.int n), (.ref b50_b4)])) _
    refine XS.iloadN X100.here hx rfl (hb hby d3_110) rfl ?_
    show Steps p.tables e below (T100.setTop (mkF m 111 #[.val (.ref o0), .val (.int p1), .val (.long q2), .second, .val (.int p3), .val (.long q4), .second, .val (.int (8 : Int32))] [(.int p1), (.int n), (.ref b50_b4)])) _
    exact Steps.refl _)
  obtain ⟨v103_0, hv103_0, S103⟩ : ∃ (v103_0 : Int32), (if p1 = (0 : Int32) then (0 : Int32) else (1 : Int32)) = v103_0 ∧ Steps p.tables e below (T100.setTop (mkF m 111 #[.val (.ref o0), .val (.int p1), .val (.long q2), .second, .val (.int p3), .val (.long q4), .second, .val (.int (8 : Int32))] [(.int p1), (.int n), (.ref b50_b4)])) (T100.setTop (mkF m 119 #[.val (.ref o0), .val (.int p1), .val (.long q2), .second, .val (.int p3), .val (.long q4), .second, .val (.int (8 : Int32))] [(.int v103_0), (.int n), (.ref b50_b4)])) := by
    have R103 : Steps p.tables e below (T100.setTop (mkF m 111 #[.val (.ref o0), .val (.int p1), .val (.long q2), .second, .val (.int p3), .val (.long q4), .second, .val (.int (8 : Int32))] [(.int p1), (.int n), (.ref b50_b4)])) (T100.setTop (mkF m 111 #[.val (.ref o0), .val (.int p1), .val (.long q2), .second, .val (.int p3), .val (.long q4), .second, .val (.int (8 : Int32))] [(.int p1), (.int n), (.ref b50_b4)])) := Steps.refl _
    by_cases hc111 : p1 = (0 : Int32)
    · have K104 : Steps p.tables e below _ (T100.setTop (mkF m 119 #[.val (.ref o0), .val (.int p1), .val (.long q2), .second, .val (.int p3), .val (.long q4), .second, .val (.int (8 : Int32))] [(.int (0 : Int32)), (.int n), (.ref b50_b4)])) := R103.trans (by
        show Steps p.tables e below (T100.setTop (mkF m 111 #[.val (.ref o0), .val (.int p1), .val (.long q2), .second, .val (.int p3), .val (.long q4), .second, .val (.int (8 : Int32))] [(.int p1), (.int n), (.ref b50_b4)])) _
        refine XS.ifYes X100.here hx rfl (pc0 := 111) (pc' := 118) rfl (hb hby d3_111) rfl ((if0 _ _).trans (teq hc111).1) (by decide) (by decide) ?_
        show Steps p.tables e below (T100.setTop (mkF m 118 #[.val (.ref o0), .val (.int p1), .val (.long q2), .second, .val (.int p3), .val (.long q4), .second, .val (.int (8 : Int32))] [(.int n), (.ref b50_b4)])) _
        refine XS.iconst X100.here hx rfl (hb hby d3_118) ?_
        show Steps p.tables e below (T100.setTop (mkF m 119 #[.val (.ref o0), .val (.int p1), .val (.long q2), .second, .val (.int p3), .val (.long q4), .second, .val (.int (8 : Int32))] [(.int (0 : Int32)), (.int n), (.ref b50_b4)])) _
        exact Steps.refl _)
      exact ⟨(0 : Int32), (by rw [if_pos hc111]), K104⟩
    · have K105 : Steps p.tables e below _ (T100.setTop (mkF m 119 #[.val (.ref o0), .val (.int p1), .val (.long q2), .second, .val (.int p3), .val (.long q4), .second, .val (.int (8 : Int32))] [(.int (1 : Int32)), (.int n), (.ref b50_b4)])) := R103.trans (by
        show Steps p.tables e below (T100.setTop (mkF m 111 #[.val (.ref o0), .val (.int p1), .val (.long q2), .second, .val (.int p3), .val (.long q4), .second, .val (.int (8 : Int32))] [(.int p1), (.int n), (.ref b50_b4)])) _
        refine XS.ifNo X100.here hx rfl (hb hby d3_111) rfl ((if0 _ _).trans (feq hc111).1) ?_
        show Steps p.tables e below (T100.setTop (mkF m 114 #[.val (.ref o0), .val (.int p1), .val (.long q2), .second, .val (.int p3), .val (.long q4), .second, .val (.int (8 : Int32))] [(.int n), (.ref b50_b4)])) _
        refine XS.iconst X100.here hx rfl (hb hby d3_114) ?_
        show Steps p.tables e below (T100.setTop (mkF m 115 #[.val (.ref o0), .val (.int p1), .val (.long q2), .second, .val (.int p3), .val (.long q4), .second, .val (.int (8 : Int32))] [(.int (1 : Int32)), (.int n), (.ref b50_b4)])) _
        refine XS.goto X100.here hx rfl (pc0 := 115) (pc' := 119) rfl (hb hby d3_115) (by decide) (by decide) ?_
        show Steps p.tables e below (T100.setTop (mkF m 119 #[.val (.ref o0), .val (.int p1), .val (.long q2), .second, .val (.int p3), .val (.long q4), .second, .val (.int (8 : Int32))] [(.int (1 : Int32)), (.int n), (.ref b50_b4)])) _
        exact Steps.refl _)
      exact ⟨(1 : Int32), (by rw [if_neg hc111]), K105⟩
  have K106 := K102.trans S103
  have K107 : Steps p.tables e below _ (T100.setTop (mkF m 121 #[.val (.ref o0), .val (.int p1), .val (.long q2), .second, .val (.int p3), .val (.long q4), .second, .val (.int (8 : Int32))] [(.int p3), (.int v103_0), (.int n), (.ref b50_b4)])) := K106.trans (by
    show Steps p.tables e below (T100.setTop (mkF m 119 #[.val (.ref o0), .val (.int p1), .val (.long q2), .second, .val (.int p3), .val (.long q4), .second, .val (.int (8 : Int32))] [(.int v103_0), (.int n), (.ref b50_b4)])) _
    refine XS.iload X100.here hx rfl (hb hby d3_119) rfl ?_
    show Steps p.tables e below (T100.setTop (mkF m 121 #[.val (.ref o0), .val (.int p1), .val (.long q2), .second, .val (.int p3), .val (.long q4), .second, .val (.int (8 : Int32))] [(.int p3), (.int v103_0), (.int n), (.ref b50_b4)])) _
    exact Steps.refl _)
  obtain ⟨v108_0, hv108_0, S108⟩ : ∃ (v108_0 : Int32), (if p3 = (0 : Int32) then (0 : Int32) else (2 : Int32)) = v108_0 ∧ Steps p.tables e below (T100.setTop (mkF m 121 #[.val (.ref o0), .val (.int p1), .val (.long q2), .second, .val (.int p3), .val (.long q4), .second, .val (.int (8 : Int32))] [(.int p3), (.int v103_0), (.int n), (.ref b50_b4)])) (T100.setTop (mkF m 129 #[.val (.ref o0), .val (.int p1), .val (.long q2), .second, .val (.int p3), .val (.long q4), .second, .val (.int (8 : Int32))] [(.int v108_0), (.int v103_0), (.int n), (.ref b50_b4)])) := by
    have R108 : Steps p.tables e below (T100.setTop (mkF m 121 #[.val (.ref o0), .val (.int p1), .val (.long q2), .second, .val (.int p3), .val (.long q4), .second, .val (.int (8 : Int32))] [(.int p3), (.int v103_0), (.int n), (.ref b50_b4)])) (T100.setTop (mkF m 121 #[.val (.ref o0), .val (.int p1), .val (.long q2), .second, .val (.int p3), .val (.long q4), .second, .val (.int (8 : Int32))] [(.int p3), (.int v103_0), (.int n), (.ref b50_b4)])) := Steps.refl _
    by_cases hc121 : p3 = (0 : Int32)
    · have K109 : Steps p.tables e below _ (T100.setTop (mkF m 129 #[.val (.ref o0), .val (.int p1), .val (.long q2), .second, .val (.int p3), .val (.long q4), .second, .val (.int (8 : Int32))] [(.int (0 : Int32)), (.int v103_0), (.int n), (.ref b50_b4)])) := R108.trans (by
        show Steps p.tables e below (T100.setTop (mkF m 121 #[.val (.ref o0), .val (.int p1), .val (.long q2), .second, .val (.int p3), .val (.long q4), .second, .val (.int (8 : Int32))] [(.int p3), (.int v103_0), (.int n), (.ref b50_b4)])) _
        refine XS.ifYes X100.here hx rfl (pc0 := 121) (pc' := 128) rfl (hb hby d3_121) rfl ((if0 _ _).trans (teq hc121).1) (by decide) (by decide) ?_
        show Steps p.tables e below (T100.setTop (mkF m 128 #[.val (.ref o0), .val (.int p1), .val (.long q2), .second, .val (.int p3), .val (.long q4), .second, .val (.int (8 : Int32))] [(.int v103_0), (.int n), (.ref b50_b4)])) _
        refine XS.iconst X100.here hx rfl (hb hby d3_128) ?_
        show Steps p.tables e below (T100.setTop (mkF m 129 #[.val (.ref o0), .val (.int p1), .val (.long q2), .second, .val (.int p3), .val (.long q4), .second, .val (.int (8 : Int32))] [(.int (0 : Int32)), (.int v103_0), (.int n), (.ref b50_b4)])) _
        exact Steps.refl _)
      exact ⟨(0 : Int32), (by rw [if_pos hc121]), K109⟩
    · have K110 : Steps p.tables e below _ (T100.setTop (mkF m 129 #[.val (.ref o0), .val (.int p1), .val (.long q2), .second, .val (.int p3), .val (.long q4), .second, .val (.int (8 : Int32))] [(.int (2 : Int32)), (.int v103_0), (.int n), (.ref b50_b4)])) := R108.trans (by
        show Steps p.tables e below (T100.setTop (mkF m 121 #[.val (.ref o0), .val (.int p1), .val (.long q2), .second, .val (.int p3), .val (.long q4), .second, .val (.int (8 : Int32))] [(.int p3), (.int v103_0), (.int n), (.ref b50_b4)])) _
        refine XS.ifNo X100.here hx rfl (hb hby d3_121) rfl ((if0 _ _).trans (feq hc121).1) ?_
        show Steps p.tables e below (T100.setTop (mkF m 124 #[.val (.ref o0), .val (.int p1), .val (.long q2), .second, .val (.int p3), .val (.long q4), .second, .val (.int (8 : Int32))] [(.int v103_0), (.int n), (.ref b50_b4)])) _
        refine XS.iconst X100.here hx rfl (hb hby d3_124) ?_
        show Steps p.tables e below (T100.setTop (mkF m 125 #[.val (.ref o0), .val (.int p1), .val (.long q2), .second, .val (.int p3), .val (.long q4), .second, .val (.int (8 : Int32))] [(.int (2 : Int32)), (.int v103_0), (.int n), (.ref b50_b4)])) _
        refine XS.goto X100.here hx rfl (pc0 := 125) (pc' := 129) rfl (hb hby d3_125) (by decide) (by decide) ?_
        show Steps p.tables e below (T100.setTop (mkF m 129 #[.val (.ref o0), .val (.int p1), .val (.long q2), .second, .val (.int p3), .val (.long q4), .second, .val (.int (8 : Int32))] [(.int (2 : Int32)), (.int v103_0), (.int n), (.ref b50_b4)])) _
        exact Steps.refl _)
      exact ⟨(2 : Int32), (by rw [if_neg hc121]), K110⟩
  have K111 := K107.trans S108
  have K112 : Steps p.tables e below _ (T100.setTop (mkF m 131 #[.val (.ref o0), .val (.int p1), .val (.long q2), .second, .val (.int p3), .val (.long q4), .second, .val (.int (8 : Int32))] [(.int ((v103_0 ||| v108_0).toInt8.toInt32)), (.int n), (.ref b50_b4)])) := K111.trans (by
    show Steps p.tables e below (T100.setTop (mkF m 129 #[.val (.ref o0), .val (.int p1), .val (.long q2), .second, .val (.int p3), .val (.long q4), .second, .val (.int (8 : Int32))] [(.int v108_0), (.int v103_0), (.int n), (.ref b50_b4)])) _
    refine XS.ior X100.here hx rfl (hb hby d3_129) rfl ?_
    show Steps p.tables e below (T100.setTop (mkF m 130 #[.val (.ref o0), .val (.int p1), .val (.long q2), .second, .val (.int p3), .val (.long q4), .second, .val (.int (8 : Int32))] [(.int (v103_0 ||| v108_0)), (.int n), (.ref b50_b4)])) _
    refine XS.i2b X100.here hx rfl (hb hby d3_130) rfl ?_
    show Steps p.tables e below (T100.setTop (mkF m 131 #[.val (.ref o0), .val (.int p1), .val (.long q2), .second, .val (.int p3), .val (.long q4), .second, .val (.int (8 : Int32))] [(.int ((v103_0 ||| v108_0).toInt8.toInt32)), (.int n), (.ref b50_b4)])) _
    exact Steps.refl _)
  have V_113 : Arv Z h92 b50_b4 k4_50 .byte (8 : Int32) (own_cp 8 z.toNatClampNeg ve (.int (0 : Int32))) (.int (0 : Int32)) := (((Q50_1.other W60 (Ne.symm ne_o0_b50_b4)).other W76 (Ne.symm ne_b19_b4_b50_b4)).other W92 (Ne.symm ne_b32_b4_b50_b4))
  obtain ⟨T114, h114, X114, e114, W114, V114, st114⟩ := own_stB X100 hx hZ e100 V_113 (j := n) hq8 i hi (by rw [own_cp_len _ _ _ _ hzn]; exact hlen) (g := (mkF m 131 #[.val (.ref o0), .val (.int p1), .val (.long q2), .second, .val (.int p3), .val (.long q4), .second, .val (.int (8 : Int32))] [(.int ((v103_0 ||| v108_0).toInt8.toInt32)), (.int n), (.ref b50_b4)])) rfl rfl (hb hby d3_131)
  have K115 : Steps p.tables e below _ (T114.setTop (mkF m 132 #[.val (.ref o0), .val (.int p1), .val (.long q2), .second, .val (.int p3), .val (.long q4), .second, .val (.int (8 : Int32))] [])) := K112.trans st114
  have Vw114 : Arv Z h114 b50_b4 k4_50 .byte (8 : Int32) ((own_cp 8 z.toNatClampNeg ve (.int (0 : Int32))).set i (.int (((v103_0 ||| v108_0).toInt8.toInt32).toInt8.toInt32))) (.int (0 : Int32)) := V114
  have N114 := Fr.snoc X114 N92 ge_b50_b4
  have K116 : Steps p.tables e below _ (T114.setTop (mkF m 134 #[.val (.ref o0), .val (.int p1), .val (.long q2), .second, .val (.int p3), .val (.long q4), .second, .val (.int (8 : Int32))] [(.ref o0), (.ref o0)])) := K115.trans (by
    show Steps p.tables e below (T114.setTop (mkF m 132 #[.val (.ref o0), .val (.int p1), .val (.long q2), .second, .val (.int p3), .val (.long q4), .second, .val (.int (8 : Int32))] [])) _
    refine XS.aloadN X114.here hx rfl (hb hby d3_132) rfl rfl ?_
    show Steps p.tables e below (T114.setTop (mkF m 133 #[.val (.ref o0), .val (.int p1), .val (.long q2), .second, .val (.int p3), .val (.long q4), .second, .val (.int (8 : Int32))] [(.ref o0)])) _
    refine XS.dup X114.here hx rfl (hb hby d3_133) rfl rfl ?_
    show Steps p.tables e below (T114.setTop (mkF m 134 #[.val (.ref o0), .val (.int p1), .val (.long q2), .second, .val (.int p3), .val (.long q4), .second, .val (.int (8 : Int32))] [(.ref o0), (.ref o0)])) _
    exact Steps.refl _)
  have F_117 : Fld Z h114 o0 "com/example/spanfold/spanfold/RangeList" "size" "I" (.int n) := (F_99.other W114 (Or.inl ne_o0_b50_b4))
  obtain ⟨T118, X118, e118, st118⟩ := getF X114 hx hZ hown (host := "") (Or.inl (hw _ (List.mem_of_getElem? (i := 22) rfl))) Via.refl e114 F_117 (g := (mkF m 134 #[.val (.ref o0), .val (.int p1), .val (.long q2), .second, .val (.int p3), .val (.long q4), .second, .val (.int (8 : Int32))] [(.ref o0), (.ref o0)])) rfl rfl (hb hby d3_134)
  have K119 : Steps p.tables e below _ (T118.setTop (mkF m 137 #[.val (.ref o0), .val (.int p1), .val (.long q2), .second, .val (.int p3), .val (.long q4), .second, .val (.int (8 : Int32))] [(.int n), (.ref o0)])) := K116.trans (st118 _ (Steps.refl _))
  have K120 : Steps p.tables e below _ (T118.setTop (mkF m 139 #[.val (.ref o0), .val (.int p1), .val (.long q2), .second, .val (.int p3), .val (.long q4), .second, .val (.int (8 : Int32))] [(.int (n + (1 : Int32))), (.ref o0)])) := K119.trans (by
    show Steps p.tables e below (T118.setTop (mkF m 137 #[.val (.ref o0), .val (.int p1), .val (.long q2), .second, .val (.int p3), .val (.long q4), .second, .val (.int (8 : Int32))] [(.int n), (.ref o0)])) _
    refine XS.iconst X118.here hx rfl (hb hby d3_137) ?_
    show Steps p.tables e below (T118.setTop (mkF m 138 #[.val (.ref o0), .val (.int p1), .val (.long q2), .second, .val (.int p3), .val (.long q4), .second, .val (.int (8 : Int32))] [(.int (1 : Int32)), (.int n), (.ref o0)])) _
    refine XS.iadd X118.here hx rfl (hb hby d3_138) rfl ?_
    show Steps p.tables e below (T118.setTop (mkF m 139 #[.val (.ref o0), .val (.int p1), .val (.long q2), .second, .val (.int p3), .val (.long q4), .second, .val (.int (8 : Int32))] [(.int (n + (1 : Int32))), (.ref o0)])) _
    exact Steps.refl _)
  have E_121 : Exa Z h114 o0 "com/example/spanfold/spanfold/RangeList" := ((((E_58.wr W60).wr W76).wr W92).wr W114)
  obtain ⟨T122, h122, X122, e122, W122, st122⟩ := putF X118 hx hZ hown (host := "") (Or.inl (hw _ (List.mem_of_getElem? (i := 22) rfl))) Via.refl e118 F_117 E_121 (Or.inl (hw _ (List.mem_of_getElem? (i := 23) rfl))) (hw _ (List.mem_of_getElem? (i := 1) rfl)) (ty := .int) (by decide) rfl rfl (g := (mkF m 139 #[.val (.ref o0), .val (.int p1), .val (.long q2), .second, .val (.int p3), .val (.long q4), .second, .val (.int (8 : Int32))] [(.int (n + (1 : Int32))), (.ref o0)])) rfl rfl (hb hby d3_139)
  have K123 : Steps p.tables e below _ (T122.setTop (mkF m 142 #[.val (.ref o0), .val (.int p1), .val (.long q2), .second, .val (.int p3), .val (.long q4), .second, .val (.int (8 : Int32))] [])) := K120.trans (st122 _ (Steps.refl _))
  have Fw122 : Fld Z h122 o0 "com/example/spanfold/spanfold/RangeList" "size" "I" (.int (n + (1 : Int32))) := F_117.same W122
  have N122 := Fr.snoc X122 N114 g_o0
  subst hv108_0
  subst hv103_0
  subst hv87_0
  subst hv71_0
  obtain ⟨fs, hr, hrun, hended, hW, hsame⟩ := X122.leave (v := none) (fun _ => rfl)
  have K_124 : Keep h0 h122 [o0] := ((((((K_56.trans Kp50 all0).wr W60 (Or.inl (List.mem_of_getElem? (i := 0) rfl))).wr W76 (Or.inr sz_b19_b4)).wr W92 (Or.inr sz_b32_b4)).wr W114 (Or.inr sz_b50_b4)).wr W122 (Or.inl (List.mem_of_getElem? (i := 0) rfl)))
  have E_125 : Exa Z h122 o0 "com/example/spanfold/spanfold/RangeList" := (E_121.wr W122)
  have F_126 : Fld Z h122 o0 "com/example/spanfold/spanfold/RangeList" "froms" "[J" (.ref b19_b4) := ((((F_63.other W76 (Or.inl ne_o0_b19_b4)).other W92 (Or.inl ne_o0_b32_b4)).other W114 (Or.inl ne_o0_b50_b4)).other W122 (Or.inr (slot_ne (Or.inl (hw _ (List.mem_of_getElem? (i := 11) rfl))) (Or.inl (hw _ (List.mem_of_getElem? (i := 23) rfl))) (by decide) (t := (.array .long)) (t' := .int) (by decide) (by decide))))
  have F_127 : Fld Z h122 o0 "com/example/spanfold/spanfold/RangeList" "tos" "[J" (.ref b32_b4) := (((F_79.other W92 (Or.inl ne_o0_b32_b4)).other W114 (Or.inl ne_o0_b50_b4)).other W122 (Or.inr (slot_ne (Or.inl (hw _ (List.mem_of_getElem? (i := 13) rfl))) (Or.inl (hw _ (List.mem_of_getElem? (i := 23) rfl))) (by decide) (t := (.array .long)) (t' := .int) (by decide) (by decide))))
  have F_128 : Fld Z h122 o0 "com/example/spanfold/spanfold/RangeList" "ends" "[B" (.ref b50_b4) := ((F_95.other W114 (Or.inl ne_o0_b50_b4)).other W122 (Or.inr (slot_ne (Or.inl (hw _ (List.mem_of_getElem? (i := 16) rfl))) (Or.inl (hw _ (List.mem_of_getElem? (i := 23) rfl))) (by decide) (t := (.array .byte)) (t' := .int) (by decide) (by decide))))
  have E_129 : Exa Z h122 b19_b4 "[J" := ((((((E_54.keep Kp50).wr W60).wr W76).wr W92).wr W114).wr W122)
  have V_130 : Arv Z h122 b19_b4 k4_19 .long (8 : Int32) ((own_cp 8 z.toNatClampNeg vf (.long (0 : Int64))).set i (.long (if p1 = (0 : Int32) then (0 : Int64) else q2))) (.long (0 : Int64)) := (((Vw76.other W92 ne_b19_b4_b32_b4).other W114 ne_b19_b4_b50_b4).other W122 (Ne.symm ne_o0_b19_b4))
  have E_131 : Exa Z h122 b32_b4 "[J" := ((((((E_55.keep Kp50).wr W60).wr W76).wr W92).wr W114).wr W122)
  have V_132 : Arv Z h122 b32_b4 k4_32 .long (8 : Int32) ((own_cp 8 z.toNatClampNeg vt (.long (0 : Int64))).set i (.long (if p3 = (0 : Int32) then (0 : Int64) else q4))) (.long (0 : Int64)) := ((Vw92.other W114 ne_b32_b4_b50_b4).other W122 (Ne.symm ne_o0_b32_b4))
  have E_133 : Exa Z h122 b50_b4 "[B" := (((((Q50_0.wr W60).wr W76).wr W92).wr W114).wr W122)
  have V_134 : Arv Z h122 b50_b4 k4_50 .byte (8 : Int32) ((own_cp 8 z.toNatClampNeg ve (.int (0 : Int32))).set i (.int ((((if p1 = (0 : Int32) then (0 : Int32) else (1 : Int32)) ||| (if p3 = (0 : Int32) then (0 : Int32) else (2 : Int32))).toInt8.toInt32).toInt8.toInt32))) (.int (0 : Int32)) := (Vw114.other W122 (Ne.symm ne_o0_b50_b4))
  refine ⟨_, _, K123.trans (X122.returnOut hx Bd.returns (hb hby d3_142) hr), hrun, hended, _, _, rfl, ?_, ⟨_, rfl⟩, hW, hsame.mono (by decide) (by first | decide | omega)⟩
  show Q_rm3g Z o0 p1 q2 p3 q4 fa ta ea kf kt ke z vf vt ve n i h0 n0 _ T122.heap _
  rw [e122]
  exact ⟨b19_b4, b32_b4, b50_b4, k4_19, k4_32, k4_50, rfl, N122, K_124, E_125, F_126, F_127, F_128, Fw122, E_129, V_130, E_131, V_132, E_133, V_134, sz_b19_b4, sz_b32_b4, sz_b50_b4, ne_b19_b4_b32_b4, ne_b19_b4_b50_b4, ne_b32_b4_b50_b4⟩
theorem pd_4 : parseMethodDescriptor "(I)V" = some ⟨[.int], none⟩ := by decide +kernel
theorem pd_5 : parseMethodDescriptor "(ZJZJ)V" = some ⟨[.boolean, .long, .boolean, .long], none⟩ := by decide +kernel
theorem pd_6 : parseMethodDescriptor "(I)Z" = some ⟨[.int], some .boolean⟩ := by decide +kernel
def Q_rm0 (n0 : Nat) (v : Option Value) (L : List Loc) : Prop := v = some (.int 1) ∧ Fr n0 L
theorem pn_0 : plainName "com/example/spanfold/spanfold/RangeListHasFromPinLaw" = true := by first | (simp [plainName, overriddenIn]; done) | decide +kernel
theorem ef_0 (m : MethodId) (x0 : Int32) (x1 : Int32) (x2 : Int64) (x3 : Int64) : entryFrame m #[(.int x0), (.int x1), (.long x2), (.long x3)] maxLocals = mkF m 0 #[.val (.int x0), .val (.int x1), .val (.long x2), .second, .val (.long x3), .second, .unset, .unset, .unset, .unset, .unset, .unset, .unset] [] := by first | (simp [entryFrame, mkF, argsToLocals, Value.category, maxLocals]; done) | rfl
set_option maxRecDepth 65536 in
set_option maxHeartbeats 4000000 in
theorem own_law_0 (p0 : Int32) (p1 : Int32) (q2 : Int64) (q3 : Int64) (v2_0 : Int32) (v7_0 : Int32) (v12_0 : Int32) (v17_0 : Int32) (v22_0 : Int32) (v27_0 : Int32) (r53 : Int32) (v56_0 : Int32) (hv2_0 : (if (p1 &&& (1 : Int32)) = (0 : Int32) then (0 : Int32) else (1 : Int32)) = v2_0) (hv7_0 : (if (p1 &&& (2 : Int32)) = (0 : Int32) then (0 : Int32) else (1 : Int32)) = v7_0) (hv12_0 : (if (p1 &&& (4 : Int32)) = (0 : Int32) then (0 : Int32) else (1 : Int32)) = v12_0) (hv17_0 : (if (p1 &&& (8 : Int32)) = (0 : Int32) then (0 : Int32) else (1 : Int32)) = v17_0) (hv22_0 : (if (p1 &&& (16 : Int32)) = (0 : Int32) then (0 : Int32) else (1 : Int32)) = v22_0) (hv27_0 : (if (p1 &&& (32 : Int32)) = (0 : Int32) then (0 : Int32) else (1 : Int32)) = v27_0) (hr53 : ((if (((((if v2_0 = (0 : Int32) then (0 : Int32) else (1 : Int32)) ||| (if v7_0 = (0 : Int32) then (0 : Int32) else (2 : Int32))).toInt8.toInt32).toInt8.toInt32) &&& (1 : Int32)) = (0 : Int32) then (0 : Int32) else (1 : Int32)) &&& 1) = r53) (hv56_0 : (if r53 = v2_0 then (if ((if (((((if v12_0 = (0 : Int32) then (0 : Int32) else (1 : Int32)) ||| (if v17_0 = (0 : Int32) then (0 : Int32) else (2 : Int32))).toInt8.toInt32).toInt8.toInt32) &&& (1 : Int32)) = (0 : Int32) then (0 : Int32) else (1 : Int32)) &&& 1) = v12_0 then (if ((if (((((if v22_0 = (0 : Int32) then (0 : Int32) else (1 : Int32)) ||| (if v27_0 = (0 : Int32) then (0 : Int32) else (2 : Int32))).toInt8.toInt32).toInt8.toInt32) &&& (1 : Int32)) = (0 : Int32) then (0 : Int32) else (1 : Int32)) &&& 1) = v22_0 then (1 : Int32) else (0 : Int32)) else (0 : Int32)) else (0 : Int32)) = v56_0) : (v56_0 &&& 1) = (1 : Int32) := by
  rw [own_bitF (own_b01 hv2_0) (own_b01 hv7_0)] at hr53
  rw [own_bitF (own_b01 hv12_0) (own_b01 hv17_0), own_bitF (own_b01 hv22_0) (own_b01 hv27_0)] at hv56_0
  subst hr53
  rw [if_pos rfl, if_pos rfl, if_pos rfl] at hv56_0
  subst hv56_0
  decide
set_option maxRecDepth 65536 in
set_option maxHeartbeats 4000000 in
theorem own_law_1 (p0 : Int32) (p1 : Int32) (q2 : Int64) (q3 : Int64) (v2_0 : Int32) (v7_0 : Int32) (v12_0 : Int32) (v17_0 : Int32) (v22_0 : Int32) (v27_0 : Int32) (r93 : Int32) (v96_0 : Int32) (hv2_0 : (if (p1 &&& (1 : Int32)) = (0 : Int32) then (0 : Int32) else (1 : Int32)) = v2_0) (hv7_0 : (if (p1 &&& (2 : Int32)) = (0 : Int32) then (0 : Int32) else (1 : Int32)) = v7_0) (hv12_0 : (if (p1 &&& (4 : Int32)) = (0 : Int32) then (0 : Int32) else (1 : Int32)) = v12_0) (hv17_0 : (if (p1 &&& (8 : Int32)) = (0 : Int32) then (0 : Int32) else (1 : Int32)) = v17_0) (hv22_0 : (if (p1 &&& (16 : Int32)) = (0 : Int32) then (0 : Int32) else (1 : Int32)) = v22_0) (hv27_0 : (if (p1 &&& (32 : Int32)) = (0 : Int32) then (0 : Int32) else (1 : Int32)) = v27_0) (hr93 : ((if (((((if v2_0 = (0 : Int32) then (0 : Int32) else (1 : Int32)) ||| (if v7_0 = (0 : Int32) then (0 : Int32) else (2 : Int32))).toInt8.toInt32).toInt8.toInt32) &&& (1 : Int32)) = (0 : Int32) then (0 : Int32) else (1 : Int32)) &&& 1) = r93) (hv96_0 : (if r93 = v2_0 then (if ((if (((((if v12_0 = (0 : Int32) then (0 : Int32) else (1 : Int32)) ||| (if v17_0 = (0 : Int32) then (0 : Int32) else (2 : Int32))).toInt8.toInt32).toInt8.toInt32) &&& (1 : Int32)) = (0 : Int32) then (0 : Int32) else (1 : Int32)) &&& 1) = v12_0 then (if ((if (((((if v22_0 = (0 : Int32) then (0 : Int32) else (1 : Int32)) ||| (if v27_0 = (0 : Int32) then (0 : Int32) else (2 : Int32))).toInt8.toInt32).toInt8.toInt32) &&& (1 : Int32)) = (0 : Int32) then (0 : Int32) else (1 : Int32)) &&& 1) = v22_0 then (1 : Int32) else (0 : Int32)) else (0 : Int32)) else (0 : Int32)) = v96_0) : (v96_0 &&& 1) = (1 : Int32) := by
  rw [own_bitF (own_b01 hv2_0) (own_b01 hv7_0)] at hr93
  rw [own_bitF (own_b01 hv12_0) (own_b01 hv17_0), own_bitF (own_b01 hv22_0) (own_b01 hv27_0)] at hv96_0
  subst hr93
  rw [if_pos rfl, if_pos rfl, if_pos rfl] at hv96_0
  subst hv96_0
  decide
set_option maxRecDepth 65536 in
set_option maxHeartbeats 4000000 in
theorem own_law_2 (p0 : Int32) (p1 : Int32) (q2 : Int64) (q3 : Int64) (v2_0 : Int32) (v7_0 : Int32) (v12_0 : Int32) (v17_0 : Int32) (v22_0 : Int32) (v27_0 : Int32) (r133 : Int32) (v136_0 : Int32) (hv2_0 : (if (p1 &&& (1 : Int32)) = (0 : Int32) then (0 : Int32) else (1 : Int32)) = v2_0) (hv7_0 : (if (p1 &&& (2 : Int32)) = (0 : Int32) then (0 : Int32) else (1 : Int32)) = v7_0) (hv12_0 : (if (p1 &&& (4 : Int32)) = (0 : Int32) then (0 : Int32) else (1 : Int32)) = v12_0) (hv17_0 : (if (p1 &&& (8 : Int32)) = (0 : Int32) then (0 : Int32) else (1 : Int32)) = v17_0) (hv22_0 : (if (p1 &&& (16 : Int32)) = (0 : Int32) then (0 : Int32) else (1 : Int32)) = v22_0) (hv27_0 : (if (p1 &&& (32 : Int32)) = (0 : Int32) then (0 : Int32) else (1 : Int32)) = v27_0) (hr133 : ((if (((((if v2_0 = (0 : Int32) then (0 : Int32) else (1 : Int32)) ||| (if v7_0 = (0 : Int32) then (0 : Int32) else (2 : Int32))).toInt8.toInt32).toInt8.toInt32) &&& (1 : Int32)) = (0 : Int32) then (0 : Int32) else (1 : Int32)) &&& 1) = r133) (hv136_0 : (if r133 = v2_0 then (if ((if (((((if v12_0 = (0 : Int32) then (0 : Int32) else (1 : Int32)) ||| (if v17_0 = (0 : Int32) then (0 : Int32) else (2 : Int32))).toInt8.toInt32).toInt8.toInt32) &&& (1 : Int32)) = (0 : Int32) then (0 : Int32) else (1 : Int32)) &&& 1) = v12_0 then (if ((if (((((if v22_0 = (0 : Int32) then (0 : Int32) else (1 : Int32)) ||| (if v27_0 = (0 : Int32) then (0 : Int32) else (2 : Int32))).toInt8.toInt32).toInt8.toInt32) &&& (1 : Int32)) = (0 : Int32) then (0 : Int32) else (1 : Int32)) &&& 1) = v22_0 then (1 : Int32) else (0 : Int32)) else (0 : Int32)) else (0 : Int32)) = v136_0) : (v136_0 &&& 1) = (1 : Int32) := by
  rw [own_bitF (own_b01 hv2_0) (own_b01 hv7_0)] at hr133
  rw [own_bitF (own_b01 hv12_0) (own_b01 hv17_0), own_bitF (own_b01 hv22_0) (own_b01 hv27_0)] at hv136_0
  subst hr133
  rw [if_pos rfl, if_pos rfl, if_pos rfl] at hv136_0
  subst hv136_0
  decide
set_option maxRecDepth 65536 in
set_option maxHeartbeats 4000000 in
theorem own_law_3 (p0 : Int32) (p1 : Int32) (q2 : Int64) (q3 : Int64) (v2_0 : Int32) (v7_0 : Int32) (v12_0 : Int32) (v17_0 : Int32) (v22_0 : Int32) (v27_0 : Int32) (r170 : Int32) (v173_0 : Int32) (hv2_0 : (if (p1 &&& (1 : Int32)) = (0 : Int32) then (0 : Int32) else (1 : Int32)) = v2_0) (hv7_0 : (if (p1 &&& (2 : Int32)) = (0 : Int32) then (0 : Int32) else (1 : Int32)) = v7_0) (hv12_0 : (if (p1 &&& (4 : Int32)) = (0 : Int32) then (0 : Int32) else (1 : Int32)) = v12_0) (hv17_0 : (if (p1 &&& (8 : Int32)) = (0 : Int32) then (0 : Int32) else (1 : Int32)) = v17_0) (hv22_0 : (if (p1 &&& (16 : Int32)) = (0 : Int32) then (0 : Int32) else (1 : Int32)) = v22_0) (hv27_0 : (if (p1 &&& (32 : Int32)) = (0 : Int32) then (0 : Int32) else (1 : Int32)) = v27_0) (hr170 : ((if (((((if v2_0 = (0 : Int32) then (0 : Int32) else (1 : Int32)) ||| (if v7_0 = (0 : Int32) then (0 : Int32) else (2 : Int32))).toInt8.toInt32).toInt8.toInt32) &&& (1 : Int32)) = (0 : Int32) then (0 : Int32) else (1 : Int32)) &&& 1) = r170) (hv173_0 : (if r170 = v2_0 then (if ((if (((((if v12_0 = (0 : Int32) then (0 : Int32) else (1 : Int32)) ||| (if v17_0 = (0 : Int32) then (0 : Int32) else (2 : Int32))).toInt8.toInt32).toInt8.toInt32) &&& (1 : Int32)) = (0 : Int32) then (0 : Int32) else (1 : Int32)) &&& 1) = v12_0 then (if ((if (((((if v22_0 = (0 : Int32) then (0 : Int32) else (1 : Int32)) ||| (if v27_0 = (0 : Int32) then (0 : Int32) else (2 : Int32))).toInt8.toInt32).toInt8.toInt32) &&& (1 : Int32)) = (0 : Int32) then (0 : Int32) else (1 : Int32)) &&& 1) = v22_0 then (1 : Int32) else (0 : Int32)) else (0 : Int32)) else (0 : Int32)) = v173_0) : (v173_0 &&& 1) = (1 : Int32) := by
  rw [own_bitF (own_b01 hv2_0) (own_b01 hv7_0)] at hr170
  rw [own_bitF (own_b01 hv12_0) (own_b01 hv17_0), own_bitF (own_b01 hv22_0) (own_b01 hv27_0)] at hv173_0
  subst hr170
  rw [if_pos rfl, if_pos rfl, if_pos rfl] at hv173_0
  subst hv173_0
  decide
set_option maxRecDepth 65536 in
set_option maxHeartbeats 40000000 in
theorem rm0 (l : Launch) (Z : State) (a0 : Array Value) (hw : ∀ d ∈ tables_1, d.before a0 Z = true) (ws : List Jvm.Cond) (p0 : Int32) (p1 : Int32) (q2 : Int64) (q3 : Int64) (h0 : Heap) (n0 : Nat) (Z0 : n0 ≤ h0.size) :
    MetFree l x (head1 (Jvm.Cond.code x code maxLocals ret :: ws) room_1) (fun a U => a = #[(.int p0), (.int p1), (.long q2), (.long q3)] ∧ Z.Warmed39 U.vm ∧ U.heap = h0) (fun _ _ _ _ _ => True) (fun _ U o U' => ∃ v L, o = .returned v ∧ Q_rm0 n0 v L ∧ FrameEnd U o U' L 7 37) := by
  refine MetFree.of_bodySF (plainFor_of_name pn_0) hisR ?_
  intro p e s m args below meth c s₁ Bd hml0 hP hK
  obtain ⟨rfl, hZ, hh⟩ := hP
  have hx := Bd.exec
  have hby := Bd.bytes
  have hml : c.maxLocals = 13 := hml0
  have hown : s.vm.findClass "com/example/spanfold/spanfold/RangeListHasFromPinLaw" = some m.cls := findClass_of_methodNamed Bd.named
  have hnm := (name_of_methodNamed Bd.named Bd.method).1
  have X0 : Stand p l e room_1 s m #[(.int p0), (.int p1), (.long q2), (.long q3)] below meth c s₁ [] 0 0 := Stand.of_body Bd
  have e0 : s₁.heap = h0 := by rw [← hh, Bd.state]; rfl
  have N0 := Fr.nil n0
  have K0 : Steps p.tables e below (s₁.setTop (entryFrame m #[(.int p0), (.int p1), (.long q2), (.long q3)] maxLocals)) (s₁.setTop (mkF m 0 #[.val (.int p0), .val (.int p1), .val (.long q2), .second, .val (.long q3), .second, .unset, .unset, .unset, .unset, .unset, .unset, .unset] [])) := castTop (ef_0 m p0 p1 q2 q3) (Steps.refl _)
  have K1 : Steps p.tables e below _ (s₁.setTop (mkF m 3 #[.val (.int p0), .val (.int p1), .val (.long q2), .second, .val (.long q3), .second, .unset, .unset, .unset, .unset, .unset, .unset, .unset] [(.int (p1 &&& (1 : Int32)))])) := K0.trans (by
    show Steps p.tables e below (s₁.setTop (mkF m 0 #[.val (.int p0), .val (.int p1), .val (.long q2), .second, .val (.long q3), .second, .unset, .unset, .unset, .unset, .unset, .unset, .unset] [])) _
    refine XS.iloadN X0.here hx rfl (hb hby at_0) rfl ?_
    show Steps p.tables e below (s₁.setTop (mkF m 1 #[.val (.int p0), .val (.int p1), .val (.long q2), .second, .val (.long q3), .second, .unset, .unset, .unset, .unset, .unset, .unset, .unset] [(.int p1)])) _
    refine XS.iconst X0.here hx rfl (hb hby at_1) ?_
    show Steps p.tables e below (s₁.setTop (mkF m 2 #[.val (.int p0), .val (.int p1), .val (.long q2), .second, .val (.long q3), .second, .unset, .unset, .unset, .unset, .unset, .unset, .unset] [(.int (1 : Int32)), (.int p1)])) _
    refine XS.iand X0.here hx rfl (hb hby at_2) rfl ?_
    show Steps p.tables e below (s₁.setTop (mkF m 3 #[.val (.int p0), .val (.int p1), .val (.long q2), .second, .val (.long q3), .second, .unset, .unset, .unset, .unset, .unset, .unset, .unset] [(.int (p1 &&& (1 : Int32)))])) _
    exact Steps.refl _)
  obtain ⟨v2_0, hv2_0, S2⟩ : ∃ (v2_0 : Int32), (if (p1 &&& (1 : Int32)) = (0 : Int32) then (0 : Int32) else (1 : Int32)) = v2_0 ∧ Steps p.tables e below (s₁.setTop (mkF m 3 #[.val (.int p0), .val (.int p1), .val (.long q2), .second, .val (.long q3), .second, .unset, .unset, .unset, .unset, .unset, .unset, .unset] [(.int (p1 &&& (1 : Int32)))])) (s₁.setTop (mkF m 11 #[.val (.int p0), .val (.int p1), .val (.long q2), .second, .val (.long q3), .second, .unset, .unset, .unset, .unset, .unset, .unset, .unset] [(.int v2_0)])) := by
    have R2 : Steps p.tables e below (s₁.setTop (mkF m 3 #[.val (.int p0), .val (.int p1), .val (.long q2), .second, .val (.long q3), .second, .unset, .unset, .unset, .unset, .unset, .unset, .unset] [(.int (p1 &&& (1 : Int32)))])) (s₁.setTop (mkF m 3 #[.val (.int p0), .val (.int p1), .val (.long q2), .second, .val (.long q3), .second, .unset, .unset, .unset, .unset, .unset, .unset, .unset] [(.int (p1 &&& (1 : Int32)))])) := Steps.refl _
    by_cases hc3 : (p1 &&& (1 : Int32)) = (0 : Int32)
    · have K3 : Steps p.tables e below _ (s₁.setTop (mkF m 11 #[.val (.int p0), .val (.int p1), .val (.long q2), .second, .val (.long q3), .second, .unset, .unset, .unset, .unset, .unset, .unset, .unset] [(.int (0 : Int32))])) := R2.trans (by
        show Steps p.tables e below (s₁.setTop (mkF m 3 #[.val (.int p0), .val (.int p1), .val (.long q2), .second, .val (.long q3), .second, .unset, .unset, .unset, .unset, .unset, .unset, .unset] [(.int (p1 &&& (1 : Int32)))])) _
        refine XS.ifYes X0.here hx rfl (pc0 := 3) (pc' := 10) rfl (hb hby at_3) rfl ((if0 _ _).trans (teq hc3).1) (by decide) (by decide) ?_
        show Steps p.tables e below (s₁.setTop (mkF m 10 #[.val (.int p0), .val (.int p1), .val (.long q2), .second, .val (.long q3), .second, .unset, .unset, .unset, .unset, .unset, .unset, .unset] [])) _
        refine XS.iconst X0.here hx rfl (hb hby at_10) ?_
        show Steps p.tables e below (s₁.setTop (mkF m 11 #[.val (.int p0), .val (.int p1), .val (.long q2), .second, .val (.long q3), .second, .unset, .unset, .unset, .unset, .unset, .unset, .unset] [(.int (0 : Int32))])) _
        exact Steps.refl _)
      exact ⟨(0 : Int32), (by rw [if_pos hc3]), K3⟩
    · have K4 : Steps p.tables e below _ (s₁.setTop (mkF m 11 #[.val (.int p0), .val (.int p1), .val (.long q2), .second, .val (.long q3), .second, .unset, .unset, .unset, .unset, .unset, .unset, .unset] [(.int (1 : Int32))])) := R2.trans (by
        show Steps p.tables e below (s₁.setTop (mkF m 3 #[.val (.int p0), .val (.int p1), .val (.long q2), .second, .val (.long q3), .second, .unset, .unset, .unset, .unset, .unset, .unset, .unset] [(.int (p1 &&& (1 : Int32)))])) _
        refine XS.ifNo X0.here hx rfl (hb hby at_3) rfl ((if0 _ _).trans (feq hc3).1) ?_
        show Steps p.tables e below (s₁.setTop (mkF m 6 #[.val (.int p0), .val (.int p1), .val (.long q2), .second, .val (.long q3), .second, .unset, .unset, .unset, .unset, .unset, .unset, .unset] [])) _
        refine XS.iconst X0.here hx rfl (hb hby at_6) ?_
        show Steps p.tables e below (s₁.setTop (mkF m 7 #[.val (.int p0), .val (.int p1), .val (.long q2), .second, .val (.long q3), .second, .unset, .unset, .unset, .unset, .unset, .unset, .unset] [(.int (1 : Int32))])) _
        refine XS.goto X0.here hx rfl (pc0 := 7) (pc' := 11) rfl (hb hby at_7) (by decide) (by decide) ?_
        show Steps p.tables e below (s₁.setTop (mkF m 11 #[.val (.int p0), .val (.int p1), .val (.long q2), .second, .val (.long q3), .second, .unset, .unset, .unset, .unset, .unset, .unset, .unset] [(.int (1 : Int32))])) _
        exact Steps.refl _)
      exact ⟨(1 : Int32), (by rw [if_neg hc3]), K4⟩
  have K5 := K1.trans S2
  have K6 : Steps p.tables e below _ (s₁.setTop (mkF m 16 #[.val (.int p0), .val (.int p1), .val (.long q2), .second, .val (.long q3), .second, .val (.int v2_0), .unset, .unset, .unset, .unset, .unset, .unset] [(.int (p1 &&& (2 : Int32)))])) := K5.trans (by
    show Steps p.tables e below (s₁.setTop (mkF m 11 #[.val (.int p0), .val (.int p1), .val (.long q2), .second, .val (.long q3), .second, .unset, .unset, .unset, .unset, .unset, .unset, .unset] [(.int v2_0)])) _
    refine XS.istore X0.here hx rfl (hb hby at_11) rfl (l' := #[.val (.int p0), .val (.int p1), .val (.long q2), .second, .val (.long q3), .second, .val (.int v2_0), .unset, .unset, .unset, .unset, .unset, .unset]) rfl ?_
    show Steps p.tables e below (s₁.setTop (mkF m 13 #[.val (.int p0), .val (.int p1), .val (.long q2), .second, .val (.long q3), .second, .val (.int v2_0), .unset, .unset, .unset, .unset, .unset, .unset] [])) _
    refine XS.iloadN X0.here hx rfl (hb hby at_13) rfl ?_
    show Steps p.tables e below (s₁.setTop (mkF m 14 #[.val (.int p0), .val (.int p1), .val (.long q2), .second, .val (.long q3), .second, .val (.int v2_0), .unset, .unset, .unset, .unset, .unset, .unset] [(.int p1)])) _
    refine XS.iconst X0.here hx rfl (hb hby at_14) ?_
    show Steps p.tables e below (s₁.setTop (mkF m 15 #[.val (.int p0), .val (.int p1), .val (.long q2), .second, .val (.long q3), .second, .val (.int v2_0), .unset, .unset, .unset, .unset, .unset, .unset] [(.int (2 : Int32)), (.int p1)])) _
    refine XS.iand X0.here hx rfl (hb hby at_15) rfl ?_
    show Steps p.tables e below (s₁.setTop (mkF m 16 #[.val (.int p0), .val (.int p1), .val (.long q2), .second, .val (.long q3), .second, .val (.int v2_0), .unset, .unset, .unset, .unset, .unset, .unset] [(.int (p1 &&& (2 : Int32)))])) _
    exact Steps.refl _)
  obtain ⟨v7_0, hv7_0, S7⟩ : ∃ (v7_0 : Int32), (if (p1 &&& (2 : Int32)) = (0 : Int32) then (0 : Int32) else (1 : Int32)) = v7_0 ∧ Steps p.tables e below (s₁.setTop (mkF m 16 #[.val (.int p0), .val (.int p1), .val (.long q2), .second, .val (.long q3), .second, .val (.int v2_0), .unset, .unset, .unset, .unset, .unset, .unset] [(.int (p1 &&& (2 : Int32)))])) (s₁.setTop (mkF m 24 #[.val (.int p0), .val (.int p1), .val (.long q2), .second, .val (.long q3), .second, .val (.int v2_0), .unset, .unset, .unset, .unset, .unset, .unset] [(.int v7_0)])) := by
    have R7 : Steps p.tables e below (s₁.setTop (mkF m 16 #[.val (.int p0), .val (.int p1), .val (.long q2), .second, .val (.long q3), .second, .val (.int v2_0), .unset, .unset, .unset, .unset, .unset, .unset] [(.int (p1 &&& (2 : Int32)))])) (s₁.setTop (mkF m 16 #[.val (.int p0), .val (.int p1), .val (.long q2), .second, .val (.long q3), .second, .val (.int v2_0), .unset, .unset, .unset, .unset, .unset, .unset] [(.int (p1 &&& (2 : Int32)))])) := Steps.refl _
    by_cases hc16 : (p1 &&& (2 : Int32)) = (0 : Int32)
    · have K8 : Steps p.tables e below _ (s₁.setTop (mkF m 24 #[.val (.int p0), .val (.int p1), .val (.long q2), .second, .val (.long q3), .second, .val (.int v2_0), .unset, .unset, .unset, .unset, .unset, .unset] [(.int (0 : Int32))])) := R7.trans (by
        show Steps p.tables e below (s₁.setTop (mkF m 16 #[.val (.int p0), .val (.int p1), .val (.long q2), .second, .val (.long q3), .second, .val (.int v2_0), .unset, .unset, .unset, .unset, .unset, .unset] [(.int (p1 &&& (2 : Int32)))])) _
        refine XS.ifYes X0.here hx rfl (pc0 := 16) (pc' := 23) rfl (hb hby at_16) rfl ((if0 _ _).trans (teq hc16).1) (by decide) (by decide) ?_
        show Steps p.tables e below (s₁.setTop (mkF m 23 #[.val (.int p0), .val (.int p1), .val (.long q2), .second, .val (.long q3), .second, .val (.int v2_0), .unset, .unset, .unset, .unset, .unset, .unset] [])) _
        refine XS.iconst X0.here hx rfl (hb hby at_23) ?_
        show Steps p.tables e below (s₁.setTop (mkF m 24 #[.val (.int p0), .val (.int p1), .val (.long q2), .second, .val (.long q3), .second, .val (.int v2_0), .unset, .unset, .unset, .unset, .unset, .unset] [(.int (0 : Int32))])) _
        exact Steps.refl _)
      exact ⟨(0 : Int32), (by rw [if_pos hc16]), K8⟩
    · have K9 : Steps p.tables e below _ (s₁.setTop (mkF m 24 #[.val (.int p0), .val (.int p1), .val (.long q2), .second, .val (.long q3), .second, .val (.int v2_0), .unset, .unset, .unset, .unset, .unset, .unset] [(.int (1 : Int32))])) := R7.trans (by
        show Steps p.tables e below (s₁.setTop (mkF m 16 #[.val (.int p0), .val (.int p1), .val (.long q2), .second, .val (.long q3), .second, .val (.int v2_0), .unset, .unset, .unset, .unset, .unset, .unset] [(.int (p1 &&& (2 : Int32)))])) _
        refine XS.ifNo X0.here hx rfl (hb hby at_16) rfl ((if0 _ _).trans (feq hc16).1) ?_
        show Steps p.tables e below (s₁.setTop (mkF m 19 #[.val (.int p0), .val (.int p1), .val (.long q2), .second, .val (.long q3), .second, .val (.int v2_0), .unset, .unset, .unset, .unset, .unset, .unset] [])) _
        refine XS.iconst X0.here hx rfl (hb hby at_19) ?_
        show Steps p.tables e below (s₁.setTop (mkF m 20 #[.val (.int p0), .val (.int p1), .val (.long q2), .second, .val (.long q3), .second, .val (.int v2_0), .unset, .unset, .unset, .unset, .unset, .unset] [(.int (1 : Int32))])) _
        refine XS.goto X0.here hx rfl (pc0 := 20) (pc' := 24) rfl (hb hby at_20) (by decide) (by decide) ?_
        show Steps p.tables e below (s₁.setTop (mkF m 24 #[.val (.int p0), .val (.int p1), .val (.long q2), .second, .val (.long q3), .second, .val (.int v2_0), .unset, .unset, .unset, .unset, .unset, .unset] [(.int (1 : Int32))])) _
        exact Steps.refl _)
      exact ⟨(1 : Int32), (by rw [if_neg hc16]), K9⟩
  have K10 := K6.trans S7
  have K11 : Steps p.tables e below _ (s₁.setTop (mkF m 29 #[.val (.int p0), .val (.int p1), .val (.long q2), .second, .val (.long q3), .second, .val (.int v2_0), .val (.int v7_0), .unset, .unset, .unset, .unset, .unset] [(.int (p1 &&& (4 : Int32)))])) := K10.trans (by
    show Steps p.tables e below (s₁.setTop (mkF m 24 #[.val (.int p0), .val (.int p1), .val (.long q2), .second, .val (.long q3), .second, .val (.int v2_0), .unset, .unset, .unset, .unset, .unset, .unset] [(.int v7_0)])) _
    refine XS.istore X0.here hx rfl (hb hby at_24) rfl (l' := #[.val (.int p0), .val (.int p1), .val (.long q2), .second, .val (.long q3), .second, .val (.int v2_0), .val (.int v7_0), .unset, .unset, .unset, .unset, .unset]) rfl ?_
    show Steps p.tables e below (s₁.setTop (mkF m 26 #[.val (.int p0), .val (.int p1), .val (.long q2), .second, .val (.long q3), .second, .val (.int v2_0), .val (.int v7_0), .unset, .unset, .unset, .unset, .unset] [])) _
    refine XS.iloadN X0.here hx rfl (hb hby at_26) rfl ?_
    show Steps p.tables e below (s₁.setTop (mkF m 27 #[.val (.int p0), .val (.int p1), .val (.long q2), .second, .val (.long q3), .second, .val (.int v2_0), .val (.int v7_0), .unset, .unset, .unset, .unset, .unset] [(.int p1)])) _
    refine XS.iconst X0.here hx rfl (hb hby at_27) ?_
    show Steps p.tables e below (s₁.setTop (mkF m 28 #[.val (.int p0), .val (.int p1), .val (.long q2), .second, .val (.long q3), .second, .val (.int v2_0), .val (.int v7_0), .unset, .unset, .unset, .unset, .unset] [(.int (4 : Int32)), (.int p1)])) _
    refine XS.iand X0.here hx rfl (hb hby at_28) rfl ?_
    show Steps p.tables e below (s₁.setTop (mkF m 29 #[.val (.int p0), .val (.int p1), .val (.long q2), .second, .val (.long q3), .second, .val (.int v2_0), .val (.int v7_0), .unset, .unset, .unset, .unset, .unset] [(.int (p1 &&& (4 : Int32)))])) _
    exact Steps.refl _)
  obtain ⟨v12_0, hv12_0, S12⟩ : ∃ (v12_0 : Int32), (if (p1 &&& (4 : Int32)) = (0 : Int32) then (0 : Int32) else (1 : Int32)) = v12_0 ∧ Steps p.tables e below (s₁.setTop (mkF m 29 #[.val (.int p0), .val (.int p1), .val (.long q2), .second, .val (.long q3), .second, .val (.int v2_0), .val (.int v7_0), .unset, .unset, .unset, .unset, .unset] [(.int (p1 &&& (4 : Int32)))])) (s₁.setTop (mkF m 37 #[.val (.int p0), .val (.int p1), .val (.long q2), .second, .val (.long q3), .second, .val (.int v2_0), .val (.int v7_0), .unset, .unset, .unset, .unset, .unset] [(.int v12_0)])) := by
    have R12 : Steps p.tables e below (s₁.setTop (mkF m 29 #[.val (.int p0), .val (.int p1), .val (.long q2), .second, .val (.long q3), .second, .val (.int v2_0), .val (.int v7_0), .unset, .unset, .unset, .unset, .unset] [(.int (p1 &&& (4 : Int32)))])) (s₁.setTop (mkF m 29 #[.val (.int p0), .val (.int p1), .val (.long q2), .second, .val (.long q3), .second, .val (.int v2_0), .val (.int v7_0), .unset, .unset, .unset, .unset, .unset] [(.int (p1 &&& (4 : Int32)))])) := Steps.refl _
    by_cases hc29 : (p1 &&& (4 : Int32)) = (0 : Int32)
    · have K13 : Steps p.tables e below _ (s₁.setTop (mkF m 37 #[.val (.int p0), .val (.int p1), .val (.long q2), .second, .val (.long q3), .second, .val (.int v2_0), .val (.int v7_0), .unset, .unset, .unset, .unset, .unset] [(.int (0 : Int32))])) := R12.trans (by
        show Steps p.tables e below (s₁.setTop (mkF m 29 #[.val (.int p0), .val (.int p1), .val (.long q2), .second, .val (.long q3), .second, .val (.int v2_0), .val (.int v7_0), .unset, .unset, .unset, .unset, .unset] [(.int (p1 &&& (4 : Int32)))])) _
        refine XS.ifYes X0.here hx rfl (pc0 := 29) (pc' := 36) rfl (hb hby at_29) rfl ((if0 _ _).trans (teq hc29).1) (by decide) (by decide) ?_
        show Steps p.tables e below (s₁.setTop (mkF m 36 #[.val (.int p0), .val (.int p1), .val (.long q2), .second, .val (.long q3), .second, .val (.int v2_0), .val (.int v7_0), .unset, .unset, .unset, .unset, .unset] [])) _
        refine XS.iconst X0.here hx rfl (hb hby at_36) ?_
        show Steps p.tables e below (s₁.setTop (mkF m 37 #[.val (.int p0), .val (.int p1), .val (.long q2), .second, .val (.long q3), .second, .val (.int v2_0), .val (.int v7_0), .unset, .unset, .unset, .unset, .unset] [(.int (0 : Int32))])) _
        exact Steps.refl _)
      exact ⟨(0 : Int32), (by rw [if_pos hc29]), K13⟩
    · have K14 : Steps p.tables e below _ (s₁.setTop (mkF m 37 #[.val (.int p0), .val (.int p1), .val (.long q2), .second, .val (.long q3), .second, .val (.int v2_0), .val (.int v7_0), .unset, .unset, .unset, .unset, .unset] [(.int (1 : Int32))])) := R12.trans (by
        show Steps p.tables e below (s₁.setTop (mkF m 29 #[.val (.int p0), .val (.int p1), .val (.long q2), .second, .val (.long q3), .second, .val (.int v2_0), .val (.int v7_0), .unset, .unset, .unset, .unset, .unset] [(.int (p1 &&& (4 : Int32)))])) _
        refine XS.ifNo X0.here hx rfl (hb hby at_29) rfl ((if0 _ _).trans (feq hc29).1) ?_
        show Steps p.tables e below (s₁.setTop (mkF m 32 #[.val (.int p0), .val (.int p1), .val (.long q2), .second, .val (.long q3), .second, .val (.int v2_0), .val (.int v7_0), .unset, .unset, .unset, .unset, .unset] [])) _
        refine XS.iconst X0.here hx rfl (hb hby at_32) ?_
        show Steps p.tables e below (s₁.setTop (mkF m 33 #[.val (.int p0), .val (.int p1), .val (.long q2), .second, .val (.long q3), .second, .val (.int v2_0), .val (.int v7_0), .unset, .unset, .unset, .unset, .unset] [(.int (1 : Int32))])) _
        refine XS.goto X0.here hx rfl (pc0 := 33) (pc' := 37) rfl (hb hby at_33) (by decide) (by decide) ?_
        show Steps p.tables e below (s₁.setTop (mkF m 37 #[.val (.int p0), .val (.int p1), .val (.long q2), .second, .val (.long q3), .second, .val (.int v2_0), .val (.int v7_0), .unset, .unset, .unset, .unset, .unset] [(.int (1 : Int32))])) _
        exact Steps.refl _)
      exact ⟨(1 : Int32), (by rw [if_neg hc29]), K14⟩
  have K15 := K11.trans S12
  have K16 : Steps p.tables e below _ (s₁.setTop (mkF m 43 #[.val (.int p0), .val (.int p1), .val (.long q2), .second, .val (.long q3), .second, .val (.int v2_0), .val (.int v7_0), .val (.int v12_0), .unset, .unset, .unset, .unset] [(.int (p1 &&& (8 : Int32)))])) := K15.trans (by
    show Steps p.tables e below (s₁.setTop (mkF m 37 #[.val (.int p0), .val (.int p1), .val (.long q2), .second, .val (.long q3), .second, .val (.int v2_0), .val (.int v7_0), .unset, .unset, .unset, .unset, .unset] [(.int v12_0)])) _
    refine XS.istore X0.here hx rfl (hb hby at_37) rfl (l' := #[.val (.int p0), .val (.int p1), .val (.long q2), .second, .val (.long q3), .second, .val (.int v2_0), .val (.int v7_0), .val (.int v12_0), .unset, .unset, .unset, .unset]) rfl ?_
    show Steps p.tables e below (s₁.setTop (mkF m 39 #[.val (.int p0), .val (.int p1), .val (.long q2), .second, .val (.long q3), .second, .val (.int v2_0), .val (.int v7_0), .val (.int v12_0), .unset, .unset, .unset, .unset] [])) _
    refine XS.iloadN X0.here hx rfl (hb hby at_39) rfl ?_
    show Steps p.tables e below (s₁.setTop (mkF m 40 #[.val (.int p0), .val (.int p1), .val (.long q2), .second, .val (.long q3), .second, .val (.int v2_0), .val (.int v7_0), .val (.int v12_0), .unset, .unset, .unset, .unset] [(.int p1)])) _
    refine XS.bipush X0.here hx rfl (hb hby at_40) ?_
    show Steps p.tables e below (s₁.setTop (mkF m 42 #[.val (.int p0), .val (.int p1), .val (.long q2), .second, .val (.long q3), .second, .val (.int v2_0), .val (.int v7_0), .val (.int v12_0), .unset, .unset, .unset, .unset] [(.int (8 : Int32)), (.int p1)])) _
    refine XS.iand X0.here hx rfl (hb hby at_42) rfl ?_
    show Steps p.tables e below (s₁.setTop (mkF m 43 #[.val (.int p0), .val (.int p1), .val (.long q2), .second, .val (.long q3), .second, .val (.int v2_0), .val (.int v7_0), .val (.int v12_0), .unset, .unset, .unset, .unset] [(.int (p1 &&& (8 : Int32)))])) _
    exact Steps.refl _)
  obtain ⟨v17_0, hv17_0, S17⟩ : ∃ (v17_0 : Int32), (if (p1 &&& (8 : Int32)) = (0 : Int32) then (0 : Int32) else (1 : Int32)) = v17_0 ∧ Steps p.tables e below (s₁.setTop (mkF m 43 #[.val (.int p0), .val (.int p1), .val (.long q2), .second, .val (.long q3), .second, .val (.int v2_0), .val (.int v7_0), .val (.int v12_0), .unset, .unset, .unset, .unset] [(.int (p1 &&& (8 : Int32)))])) (s₁.setTop (mkF m 51 #[.val (.int p0), .val (.int p1), .val (.long q2), .second, .val (.long q3), .second, .val (.int v2_0), .val (.int v7_0), .val (.int v12_0), .unset, .unset, .unset, .unset] [(.int v17_0)])) := by
    have R17 : Steps p.tables e below (s₁.setTop (mkF m 43 #[.val (.int p0), .val (.int p1), .val (.long q2), .second, .val (.long q3), .second, .val (.int v2_0), .val (.int v7_0), .val (.int v12_0), .unset, .unset, .unset, .unset] [(.int (p1 &&& (8 : Int32)))])) (s₁.setTop (mkF m 43 #[.val (.int p0), .val (.int p1), .val (.long q2), .second, .val (.long q3), .second, .val (.int v2_0), .val (.int v7_0), .val (.int v12_0), .unset, .unset, .unset, .unset] [(.int (p1 &&& (8 : Int32)))])) := Steps.refl _
    by_cases hc43 : (p1 &&& (8 : Int32)) = (0 : Int32)
    · have K18 : Steps p.tables e below _ (s₁.setTop (mkF m 51 #[.val (.int p0), .val (.int p1), .val (.long q2), .second, .val (.long q3), .second, .val (.int v2_0), .val (.int v7_0), .val (.int v12_0), .unset, .unset, .unset, .unset] [(.int (0 : Int32))])) := R17.trans (by
        show Steps p.tables e below (s₁.setTop (mkF m 43 #[.val (.int p0), .val (.int p1), .val (.long q2), .second, .val (.long q3), .second, .val (.int v2_0), .val (.int v7_0), .val (.int v12_0), .unset, .unset, .unset, .unset] [(.int (p1 &&& (8 : Int32)))])) _
        refine XS.ifYes X0.here hx rfl (pc0 := 43) (pc' := 50) rfl (hb hby at_43) rfl ((if0 _ _).trans (teq hc43).1) (by decide) (by decide) ?_
        show Steps p.tables e below (s₁.setTop (mkF m 50 #[.val (.int p0), .val (.int p1), .val (.long q2), .second, .val (.long q3), .second, .val (.int v2_0), .val (.int v7_0), .val (.int v12_0), .unset, .unset, .unset, .unset] [])) _
        refine XS.iconst X0.here hx rfl (hb hby at_50) ?_
        show Steps p.tables e below (s₁.setTop (mkF m 51 #[.val (.int p0), .val (.int p1), .val (.long q2), .second, .val (.long q3), .second, .val (.int v2_0), .val (.int v7_0), .val (.int v12_0), .unset, .unset, .unset, .unset] [(.int (0 : Int32))])) _
        exact Steps.refl _)
      exact ⟨(0 : Int32), (by rw [if_pos hc43]), K18⟩
    · have K19 : Steps p.tables e below _ (s₁.setTop (mkF m 51 #[.val (.int p0), .val (.int p1), .val (.long q2), .second, .val (.long q3), .second, .val (.int v2_0), .val (.int v7_0), .val (.int v12_0), .unset, .unset, .unset, .unset] [(.int (1 : Int32))])) := R17.trans (by
        show Steps p.tables e below (s₁.setTop (mkF m 43 #[.val (.int p0), .val (.int p1), .val (.long q2), .second, .val (.long q3), .second, .val (.int v2_0), .val (.int v7_0), .val (.int v12_0), .unset, .unset, .unset, .unset] [(.int (p1 &&& (8 : Int32)))])) _
        refine XS.ifNo X0.here hx rfl (hb hby at_43) rfl ((if0 _ _).trans (feq hc43).1) ?_
        show Steps p.tables e below (s₁.setTop (mkF m 46 #[.val (.int p0), .val (.int p1), .val (.long q2), .second, .val (.long q3), .second, .val (.int v2_0), .val (.int v7_0), .val (.int v12_0), .unset, .unset, .unset, .unset] [])) _
        refine XS.iconst X0.here hx rfl (hb hby at_46) ?_
        show Steps p.tables e below (s₁.setTop (mkF m 47 #[.val (.int p0), .val (.int p1), .val (.long q2), .second, .val (.long q3), .second, .val (.int v2_0), .val (.int v7_0), .val (.int v12_0), .unset, .unset, .unset, .unset] [(.int (1 : Int32))])) _
        refine XS.goto X0.here hx rfl (pc0 := 47) (pc' := 51) rfl (hb hby at_47) (by decide) (by decide) ?_
        show Steps p.tables e below (s₁.setTop (mkF m 51 #[.val (.int p0), .val (.int p1), .val (.long q2), .second, .val (.long q3), .second, .val (.int v2_0), .val (.int v7_0), .val (.int v12_0), .unset, .unset, .unset, .unset] [(.int (1 : Int32))])) _
        exact Steps.refl _)
      exact ⟨(1 : Int32), (by rw [if_neg hc43]), K19⟩
  have K20 := K16.trans S17
  have K21 : Steps p.tables e below _ (s₁.setTop (mkF m 57 #[.val (.int p0), .val (.int p1), .val (.long q2), .second, .val (.long q3), .second, .val (.int v2_0), .val (.int v7_0), .val (.int v12_0), .val (.int v17_0), .unset, .unset, .unset] [(.int (p1 &&& (16 : Int32)))])) := K20.trans (by
    show Steps p.tables e below (s₁.setTop (mkF m 51 #[.val (.int p0), .val (.int p1), .val (.long q2), .second, .val (.long q3), .second, .val (.int v2_0), .val (.int v7_0), .val (.int v12_0), .unset, .unset, .unset, .unset] [(.int v17_0)])) _
    refine XS.istore X0.here hx rfl (hb hby at_51) rfl (l' := #[.val (.int p0), .val (.int p1), .val (.long q2), .second, .val (.long q3), .second, .val (.int v2_0), .val (.int v7_0), .val (.int v12_0), .val (.int v17_0), .unset, .unset, .unset]) rfl ?_
    show Steps p.tables e below (s₁.setTop (mkF m 53 #[.val (.int p0), .val (.int p1), .val (.long q2), .second, .val (.long q3), .second, .val (.int v2_0), .val (.int v7_0), .val (.int v12_0), .val (.int v17_0), .unset, .unset, .unset] [])) _
    refine XS.iloadN X0.here hx rfl (hb hby at_53) rfl ?_
    show Steps p.tables e below (s₁.setTop (mkF m 54 #[.val (.int p0), .val (.int p1), .val (.long q2), .second, .val (.long q3), .second, .val (.int v2_0), .val (.int v7_0), .val (.int v12_0), .val (.int v17_0), .unset, .unset, .unset] [(.int p1)])) _
    refine XS.bipush X0.here hx rfl (hb hby at_54) ?_
    show Steps p.tables e below (s₁.setTop (mkF m 56 #[.val (.int p0), .val (.int p1), .val (.long q2), .second, .val (.long q3), .second, .val (.int v2_0), .val (.int v7_0), .val (.int v12_0), .val (.int v17_0), .unset, .unset, .unset] [(.int (16 : Int32)), (.int p1)])) _
    refine XS.iand X0.here hx rfl (hb hby at_56) rfl ?_
    show Steps p.tables e below (s₁.setTop (mkF m 57 #[.val (.int p0), .val (.int p1), .val (.long q2), .second, .val (.long q3), .second, .val (.int v2_0), .val (.int v7_0), .val (.int v12_0), .val (.int v17_0), .unset, .unset, .unset] [(.int (p1 &&& (16 : Int32)))])) _
    exact Steps.refl _)
  obtain ⟨v22_0, hv22_0, S22⟩ : ∃ (v22_0 : Int32), (if (p1 &&& (16 : Int32)) = (0 : Int32) then (0 : Int32) else (1 : Int32)) = v22_0 ∧ Steps p.tables e below (s₁.setTop (mkF m 57 #[.val (.int p0), .val (.int p1), .val (.long q2), .second, .val (.long q3), .second, .val (.int v2_0), .val (.int v7_0), .val (.int v12_0), .val (.int v17_0), .unset, .unset, .unset] [(.int (p1 &&& (16 : Int32)))])) (s₁.setTop (mkF m 65 #[.val (.int p0), .val (.int p1), .val (.long q2), .second, .val (.long q3), .second, .val (.int v2_0), .val (.int v7_0), .val (.int v12_0), .val (.int v17_0), .unset, .unset, .unset] [(.int v22_0)])) := by
    have R22 : Steps p.tables e below (s₁.setTop (mkF m 57 #[.val (.int p0), .val (.int p1), .val (.long q2), .second, .val (.long q3), .second, .val (.int v2_0), .val (.int v7_0), .val (.int v12_0), .val (.int v17_0), .unset, .unset, .unset] [(.int (p1 &&& (16 : Int32)))])) (s₁.setTop (mkF m 57 #[.val (.int p0), .val (.int p1), .val (.long q2), .second, .val (.long q3), .second, .val (.int v2_0), .val (.int v7_0), .val (.int v12_0), .val (.int v17_0), .unset, .unset, .unset] [(.int (p1 &&& (16 : Int32)))])) := Steps.refl _
    by_cases hc57 : (p1 &&& (16 : Int32)) = (0 : Int32)
    · have K23 : Steps p.tables e below _ (s₁.setTop (mkF m 65 #[.val (.int p0), .val (.int p1), .val (.long q2), .second, .val (.long q3), .second, .val (.int v2_0), .val (.int v7_0), .val (.int v12_0), .val (.int v17_0), .unset, .unset, .unset] [(.int (0 : Int32))])) := R22.trans (by
        show Steps p.tables e below (s₁.setTop (mkF m 57 #[.val (.int p0), .val (.int p1), .val (.long q2), .second, .val (.long q3), .second, .val (.int v2_0), .val (.int v7_0), .val (.int v12_0), .val (.int v17_0), .unset, .unset, .unset] [(.int (p1 &&& (16 : Int32)))])) _
        refine XS.ifYes X0.here hx rfl (pc0 := 57) (pc' := 64) rfl (hb hby at_57) rfl ((if0 _ _).trans (teq hc57).1) (by decide) (by decide) ?_
        show Steps p.tables e below (s₁.setTop (mkF m 64 #[.val (.int p0), .val (.int p1), .val (.long q2), .second, .val (.long q3), .second, .val (.int v2_0), .val (.int v7_0), .val (.int v12_0), .val (.int v17_0), .unset, .unset, .unset] [])) _
        refine XS.iconst X0.here hx rfl (hb hby at_64) ?_
        show Steps p.tables e below (s₁.setTop (mkF m 65 #[.val (.int p0), .val (.int p1), .val (.long q2), .second, .val (.long q3), .second, .val (.int v2_0), .val (.int v7_0), .val (.int v12_0), .val (.int v17_0), .unset, .unset, .unset] [(.int (0 : Int32))])) _
        exact Steps.refl _)
      exact ⟨(0 : Int32), (by rw [if_pos hc57]), K23⟩
    · have K24 : Steps p.tables e below _ (s₁.setTop (mkF m 65 #[.val (.int p0), .val (.int p1), .val (.long q2), .second, .val (.long q3), .second, .val (.int v2_0), .val (.int v7_0), .val (.int v12_0), .val (.int v17_0), .unset, .unset, .unset] [(.int (1 : Int32))])) := R22.trans (by
        show Steps p.tables e below (s₁.setTop (mkF m 57 #[.val (.int p0), .val (.int p1), .val (.long q2), .second, .val (.long q3), .second, .val (.int v2_0), .val (.int v7_0), .val (.int v12_0), .val (.int v17_0), .unset, .unset, .unset] [(.int (p1 &&& (16 : Int32)))])) _
        refine XS.ifNo X0.here hx rfl (hb hby at_57) rfl ((if0 _ _).trans (feq hc57).1) ?_
        show Steps p.tables e below (s₁.setTop (mkF m 60 #[.val (.int p0), .val (.int p1), .val (.long q2), .second, .val (.long q3), .second, .val (.int v2_0), .val (.int v7_0), .val (.int v12_0), .val (.int v17_0), .unset, .unset, .unset] [])) _
        refine XS.iconst X0.here hx rfl (hb hby at_60) ?_
        show Steps p.tables e below (s₁.setTop (mkF m 61 #[.val (.int p0), .val (.int p1), .val (.long q2), .second, .val (.long q3), .second, .val (.int v2_0), .val (.int v7_0), .val (.int v12_0), .val (.int v17_0), .unset, .unset, .unset] [(.int (1 : Int32))])) _
        refine XS.goto X0.here hx rfl (pc0 := 61) (pc' := 65) rfl (hb hby at_61) (by decide) (by decide) ?_
        show Steps p.tables e below (s₁.setTop (mkF m 65 #[.val (.int p0), .val (.int p1), .val (.long q2), .second, .val (.long q3), .second, .val (.int v2_0), .val (.int v7_0), .val (.int v12_0), .val (.int v17_0), .unset, .unset, .unset] [(.int (1 : Int32))])) _
        exact Steps.refl _)
      exact ⟨(1 : Int32), (by rw [if_neg hc57]), K24⟩
  have K25 := K21.trans S22
  have K26 : Steps p.tables e below _ (s₁.setTop (mkF m 71 #[.val (.int p0), .val (.int p1), .val (.long q2), .second, .val (.long q3), .second, .val (.int v2_0), .val (.int v7_0), .val (.int v12_0), .val (.int v17_0), .val (.int v22_0), .unset, .unset] [(.int (p1 &&& (32 : Int32)))])) := K25.trans (by
    show Steps p.tables e below (s₁.setTop (mkF m 65 #[.val (.int p0), .val (.int p1), .val (.long q2), .second, .val (.long q3), .second, .val (.int v2_0), .val (.int v7_0), .val (.int v12_0), .val (.int v17_0), .unset, .unset, .unset] [(.int v22_0)])) _
    refine XS.istore X0.here hx rfl (hb hby at_65) rfl (l' := #[.val (.int p0), .val (.int p1), .val (.long q2), .second, .val (.long q3), .second, .val (.int v2_0), .val (.int v7_0), .val (.int v12_0), .val (.int v17_0), .val (.int v22_0), .unset, .unset]) rfl ?_
    show Steps p.tables e below (s₁.setTop (mkF m 67 #[.val (.int p0), .val (.int p1), .val (.long q2), .second, .val (.long q3), .second, .val (.int v2_0), .val (.int v7_0), .val (.int v12_0), .val (.int v17_0), .val (.int v22_0), .unset, .unset] [])) _
    refine XS.iloadN X0.here hx rfl (hb hby at_67) rfl ?_
    show Steps p.tables e below (s₁.setTop (mkF m 68 #[.val (.int p0), .val (.int p1), .val (.long q2), .second, .val (.long q3), .second, .val (.int v2_0), .val (.int v7_0), .val (.int v12_0), .val (.int v17_0), .val (.int v22_0), .unset, .unset] [(.int p1)])) _
    refine XS.bipush X0.here hx rfl (hb hby at_68) ?_
    show Steps p.tables e below (s₁.setTop (mkF m 70 #[.val (.int p0), .val (.int p1), .val (.long q2), .second, .val (.long q3), .second, .val (.int v2_0), .val (.int v7_0), .val (.int v12_0), .val (.int v17_0), .val (.int v22_0), .unset, .unset] [(.int (32 : Int32)), (.int p1)])) _
    refine XS.iand X0.here hx rfl (hb hby at_70) rfl ?_
    show Steps p.tables e below (s₁.setTop (mkF m 71 #[.val (.int p0), .val (.int p1), .val (.long q2), .second, .val (.long q3), .second, .val (.int v2_0), .val (.int v7_0), .val (.int v12_0), .val (.int v17_0), .val (.int v22_0), .unset, .unset] [(.int (p1 &&& (32 : Int32)))])) _
    exact Steps.refl _)
  obtain ⟨v27_0, hv27_0, S27⟩ : ∃ (v27_0 : Int32), (if (p1 &&& (32 : Int32)) = (0 : Int32) then (0 : Int32) else (1 : Int32)) = v27_0 ∧ Steps p.tables e below (s₁.setTop (mkF m 71 #[.val (.int p0), .val (.int p1), .val (.long q2), .second, .val (.long q3), .second, .val (.int v2_0), .val (.int v7_0), .val (.int v12_0), .val (.int v17_0), .val (.int v22_0), .unset, .unset] [(.int (p1 &&& (32 : Int32)))])) (s₁.setTop (mkF m 79 #[.val (.int p0), .val (.int p1), .val (.long q2), .second, .val (.long q3), .second, .val (.int v2_0), .val (.int v7_0), .val (.int v12_0), .val (.int v17_0), .val (.int v22_0), .unset, .unset] [(.int v27_0)])) := by
    have R27 : Steps p.tables e below (s₁.setTop (mkF m 71 #[.val (.int p0), .val (.int p1), .val (.long q2), .second, .val (.long q3), .second, .val (.int v2_0), .val (.int v7_0), .val (.int v12_0), .val (.int v17_0), .val (.int v22_0), .unset, .unset] [(.int (p1 &&& (32 : Int32)))])) (s₁.setTop (mkF m 71 #[.val (.int p0), .val (.int p1), .val (.long q2), .second, .val (.long q3), .second, .val (.int v2_0), .val (.int v7_0), .val (.int v12_0), .val (.int v17_0), .val (.int v22_0), .unset, .unset] [(.int (p1 &&& (32 : Int32)))])) := Steps.refl _
    by_cases hc71 : (p1 &&& (32 : Int32)) = (0 : Int32)
    · have K28 : Steps p.tables e below _ (s₁.setTop (mkF m 79 #[.val (.int p0), .val (.int p1), .val (.long q2), .second, .val (.long q3), .second, .val (.int v2_0), .val (.int v7_0), .val (.int v12_0), .val (.int v17_0), .val (.int v22_0), .unset, .unset] [(.int (0 : Int32))])) := R27.trans (by
        show Steps p.tables e below (s₁.setTop (mkF m 71 #[.val (.int p0), .val (.int p1), .val (.long q2), .second, .val (.long q3), .second, .val (.int v2_0), .val (.int v7_0), .val (.int v12_0), .val (.int v17_0), .val (.int v22_0), .unset, .unset] [(.int (p1 &&& (32 : Int32)))])) _
        refine XS.ifYes X0.here hx rfl (pc0 := 71) (pc' := 78) rfl (hb hby at_71) rfl ((if0 _ _).trans (teq hc71).1) (by decide) (by decide) ?_
        show Steps p.tables e below (s₁.setTop (mkF m 78 #[.val (.int p0), .val (.int p1), .val (.long q2), .second, .val (.long q3), .second, .val (.int v2_0), .val (.int v7_0), .val (.int v12_0), .val (.int v17_0), .val (.int v22_0), .unset, .unset] [])) _
        refine XS.iconst X0.here hx rfl (hb hby at_78) ?_
        show Steps p.tables e below (s₁.setTop (mkF m 79 #[.val (.int p0), .val (.int p1), .val (.long q2), .second, .val (.long q3), .second, .val (.int v2_0), .val (.int v7_0), .val (.int v12_0), .val (.int v17_0), .val (.int v22_0), .unset, .unset] [(.int (0 : Int32))])) _
        exact Steps.refl _)
      exact ⟨(0 : Int32), (by rw [if_pos hc71]), K28⟩
    · have K29 : Steps p.tables e below _ (s₁.setTop (mkF m 79 #[.val (.int p0), .val (.int p1), .val (.long q2), .second, .val (.long q3), .second, .val (.int v2_0), .val (.int v7_0), .val (.int v12_0), .val (.int v17_0), .val (.int v22_0), .unset, .unset] [(.int (1 : Int32))])) := R27.trans (by
        show Steps p.tables e below (s₁.setTop (mkF m 71 #[.val (.int p0), .val (.int p1), .val (.long q2), .second, .val (.long q3), .second, .val (.int v2_0), .val (.int v7_0), .val (.int v12_0), .val (.int v17_0), .val (.int v22_0), .unset, .unset] [(.int (p1 &&& (32 : Int32)))])) _
        refine XS.ifNo X0.here hx rfl (hb hby at_71) rfl ((if0 _ _).trans (feq hc71).1) ?_
        show Steps p.tables e below (s₁.setTop (mkF m 74 #[.val (.int p0), .val (.int p1), .val (.long q2), .second, .val (.long q3), .second, .val (.int v2_0), .val (.int v7_0), .val (.int v12_0), .val (.int v17_0), .val (.int v22_0), .unset, .unset] [])) _
        refine XS.iconst X0.here hx rfl (hb hby at_74) ?_
        show Steps p.tables e below (s₁.setTop (mkF m 75 #[.val (.int p0), .val (.int p1), .val (.long q2), .second, .val (.long q3), .second, .val (.int v2_0), .val (.int v7_0), .val (.int v12_0), .val (.int v17_0), .val (.int v22_0), .unset, .unset] [(.int (1 : Int32))])) _
        refine XS.goto X0.here hx rfl (pc0 := 75) (pc' := 79) rfl (hb hby at_75) (by decide) (by decide) ?_
        show Steps p.tables e below (s₁.setTop (mkF m 79 #[.val (.int p0), .val (.int p1), .val (.long q2), .second, .val (.long q3), .second, .val (.int v2_0), .val (.int v7_0), .val (.int v12_0), .val (.int v17_0), .val (.int v22_0), .unset, .unset] [(.int (1 : Int32))])) _
        exact Steps.refl _)
      exact ⟨(1 : Int32), (by rw [if_neg hc71]), K29⟩
  have K30 := K26.trans S27
  have K31 : Steps p.tables e below _ (s₁.setTop (mkF m 81 #[.val (.int p0), .val (.int p1), .val (.long q2), .second, .val (.long q3), .second, .val (.int v2_0), .val (.int v7_0), .val (.int v12_0), .val (.int v17_0), .val (.int v22_0), .val (.int v27_0), .unset] [])) := K30.trans (by
    show Steps p.tables e below (s₁.setTop (mkF m 79 #[.val (.int p0), .val (.int p1), .val (.long q2), .second, .val (.long q3), .second, .val (.int v2_0), .val (.int v7_0), .val (.int v12_0), .val (.int v17_0), .val (.int v22_0), .unset, .unset] [(.int v27_0)])) _
    refine XS.istore X0.here hx rfl (hb hby at_79) rfl (l' := #[.val (.int p0), .val (.int p1), .val (.long q2), .second, .val (.long q3), .second, .val (.int v2_0), .val (.int v7_0), .val (.int v12_0), .val (.int v17_0), .val (.int v22_0), .val (.int v27_0), .unset]) rfl ?_
    show Steps p.tables e below (s₁.setTop (mkF m 81 #[.val (.int p0), .val (.int p1), .val (.long q2), .second, .val (.long q3), .second, .val (.int v2_0), .val (.int v7_0), .val (.int v12_0), .val (.int v17_0), .val (.int v22_0), .val (.int v27_0), .unset] [])) _
    exact Steps.refl _)
  obtain ⟨T32, h32, X32, e32, E32, A32, D32, -, st32⟩ := newO X0 hx hZ hown (hw _ (List.mem_of_getElem? (i := 0) rfl)) (hw _ (List.mem_of_getElem? (i := 1) rfl)) (hw _ (List.mem_of_getElem? (i := 2) rfl)) e0 (g := (mkF m 81 #[.val (.int p0), .val (.int p1), .val (.long q2), .second, .val (.long q3), .second, .val (.int v2_0), .val (.int v7_0), .val (.int v12_0), .val (.int v17_0), .val (.int v22_0), .val (.int v27_0), .unset] [])) rfl (hb hby at_81) (by decide) (by decide)
  obtain ⟨b32, g32⟩ : ∃ z, z = h0.size := ⟨_, rfl⟩
  rw [← g32] at A32 D32 st32
  have ge_b32 : n0 ≤ b32 := Nat.le_trans Z0 (Nat.le_of_eq g32.symm)
  have K33 : Steps p.tables e below _ (T32.setTop (mkF m 84 #[.val (.int p0), .val (.int p1), .val (.long q2), .second, .val (.long q3), .second, .val (.int v2_0), .val (.int v7_0), .val (.int v12_0), .val (.int v17_0), .val (.int v22_0), .val (.int v27_0), .unset] [(.ref b32)])) := K31.trans (st32 _ (Steps.refl _))
  have F32_froms : Fld Z h32 b32 "com/example/spanfold/spanfold/RangeList" "froms" "[J" .null := D32 (Or.inl (hw _ (List.mem_of_getElem? (i := 11) rfl))) (ty := (.array .long)) (by decide)
  have F32_tos : Fld Z h32 b32 "com/example/spanfold/spanfold/RangeList" "tos" "[J" .null := D32 (Or.inl (hw _ (List.mem_of_getElem? (i := 13) rfl))) (ty := (.array .long)) (by decide)
  have F32_ends : Fld Z h32 b32 "com/example/spanfold/spanfold/RangeList" "ends" "[B" .null := D32 (Or.inl (hw _ (List.mem_of_getElem? (i := 16) rfl))) (ty := (.array .byte)) (by decide)
  have F32_size : Fld Z h32 b32 "com/example/spanfold/spanfold/RangeList" "size" "I" (.int (0 : Int32)) := D32 (Or.inl (hw _ (List.mem_of_getElem? (i := 23) rfl))) (ty := .int) (by decide)
  have K34 : Steps p.tables e below _ (T32.setTop (mkF m 88 #[.val (.int p0), .val (.int p1), .val (.long q2), .second, .val (.long q3), .second, .val (.int v2_0), .val (.int v7_0), .val (.int v12_0), .val (.int v17_0), .val (.int v22_0), .val (.int v27_0), .unset] [(.int (p0 &&& (3 : Int32))), (.ref b32), (.ref b32)])) := K33.trans (by
    show Steps p.tables e below (T32.setTop (mkF m 84 #[.val (.int p0), .val (.int p1), .val (.long q2), .second, .val (.long q3), .second, .val (.int v2_0), .val (.int v7_0), .val (.int v12_0), .val (.int v17_0), .val (.int v22_0), .val (.int v27_0), .unset] [(.ref b32)])) _
    refine XS.dup X32.here hx rfl (hb hby at_84) rfl rfl ?_
    show Steps p.tables e below (T32.setTop (mkF m 85 #[.val (.int p0), .val (.int p1), .val (.long q2), .second, .val (.long q3), .second, .val (.int v2_0), .val (.int v7_0), .val (.int v12_0), .val (.int v17_0), .val (.int v22_0), .val (.int v27_0), .unset] [(.ref b32), (.ref b32)])) _
    refine XS.iloadN X32.here hx rfl (hb hby at_85) rfl ?_
    show Steps p.tables e below (T32.setTop (mkF m 86 #[.val (.int p0), .val (.int p1), .val (.long q2), .second, .val (.long q3), .second, .val (.int v2_0), .val (.int v7_0), .val (.int v12_0), .val (.int v17_0), .val (.int v22_0), .val (.int v27_0), .unset] [(.int p0), (.ref b32), (.ref b32)])) _
    refine XS.iconst X32.here hx rfl (hb hby at_86) ?_
    show Steps p.tables e below (T32.setTop (mkF m 87 #[.val (.int p0), .val (.int p1), .val (.long q2), .second, .val (.long q3), .second, .val (.int v2_0), .val (.int v7_0), .val (.int v12_0), .val (.int v17_0), .val (.int v22_0), .val (.int v27_0), .unset] [(.int (3 : Int32)), (.int p0), (.ref b32), (.ref b32)])) _
    refine XS.iand X32.here hx rfl (hb hby at_87) rfl ?_
    show Steps p.tables e below (T32.setTop (mkF m 88 #[.val (.int p0), .val (.int p1), .val (.long q2), .second, .val (.long q3), .second, .val (.int v2_0), .val (.int v7_0), .val (.int v12_0), .val (.int v17_0), .val (.int v22_0), .val (.int v27_0), .unset] [(.int (p0 &&& (3 : Int32))), (.ref b32), (.ref b32)])) _
    exact Steps.refl _)
  rcases own_and3 p0 with hcap | hcap | hcap | hcap
  · rw [hcap] at K34
    have Z_35 : n0 ≤ h32.size := (Nat.le_trans Z0 E32.1)
    obtain ⟨_, _, ⟨T36, L36, k36, n36⟩, -, X36, ⟨Lc36, hQ36, l36, y36, z36⟩, st36⟩ := X32.specialBack hx (y := (⟨"com/example/spanfold/spanfold/RangeList", "<init>", "(I)V"⟩ : MethodName)) rfl hown (mvT hZ (hw _ (List.mem_of_getElem? (i := 3) rfl))) (mvT hZ (hw _ (List.mem_of_getElem? (i := 4) rfl))) (mvT hZ (hw _ (List.mem_of_getElem? (i := 5) rfl))) (by decide) (backOf (W := 1) (rm1 l Z a0 hw [] b32 (0 : Int32) (0 : Int32) .null .null .null h32 n0 Z_35 A32 F32_size ge_b32 (by decide) F32_froms F32_tos F32_ends) hZ (hw _ (List.mem_of_getElem? (i := 5) rfl)) (hw _ (List.mem_of_getElem? (i := 2) rfl)) (by decide) (by decide)) (g := (mkF m 88 #[.val (.int p0), .val (.int p1), .val (.long q2), .second, .val (.long q3), .second, .val (.int v2_0), .val (.int v7_0), .val (.int v12_0), .val (.int v17_0), .val (.int v22_0), .val (.int v27_0), .unset] [(.int (0 : Int32)), (.ref b32), (.ref b32)])) rfl (by rw [hml]; rfl) K34 (a := b32) (argsL := [(.int (0 : Int32))]) (rest := [(.ref b32)]) (lenOf pd_4 rfl) rfl (by show 2 * 0 + _ ≤ _; exact Nat.le_of_eq rfl) (hb hby at_88) (fun _ _ => ⟨rfl, e32, (by decide : 1 + 3 ≤ _), (by decide : 4 + 9 ≤ _)⟩)
    dsimp only [Pt.U, Pt.locs, Pt.cells, Pt.slots] at X36 l36 y36 z36 st36 hQ36
    subst l36 y36 z36
    obtain ⟨b36_b5, b36_b12, b36_b23, k5_36, k12_36, k23_36, rfl, N36, Kp36, Q36_0, Q36_1, Q36_2, Q36_3, Q36_4, Q36_5, Q36_6, Q36_7, Q36_8, Q36_9, Q36_10, sz36_b5, sz36_b12, sz36_b23, ne36_14, ne36_15, ne36_16⟩ := hQ36
    have ne_b32_b36_b5 : b32 ≠ b36_b5 := Nat.ne_of_lt (Nat.lt_of_lt_of_le A32.lt sz36_b5)
    have ge_b36_b5 : n0 ≤ b36_b5 := Nat.le_trans Z_35 sz36_b5
    have ne_b32_b36_b12 : b32 ≠ b36_b12 := Nat.ne_of_lt (Nat.lt_of_lt_of_le A32.lt sz36_b12)
    have ge_b36_b12 : n0 ≤ b36_b12 := Nat.le_trans Z_35 sz36_b12
    have ne_b32_b36_b23 : b32 ≠ b36_b23 := Nat.ne_of_lt (Nat.lt_of_lt_of_le A32.lt sz36_b23)
    have ge_b36_b23 : n0 ≤ b36_b23 := Nat.le_trans Z_35 sz36_b23
    have N36' := Fr.app N0 N36
    have K37 : Steps p.tables e below _ (T36.setTop (mkF m 91 #[.val (.int p0), .val (.int p1), .val (.long q2), .second, .val (.long q3), .second, .val (.int v2_0), .val (.int v7_0), .val (.int v12_0), .val (.int v17_0), .val (.int v22_0), .val (.int v27_0), .unset] [(.ref b32)])) := st36
    have K38 : Steps p.tables e below _ (T36.setTop (mkF m 102 #[.val (.int p0), .val (.int p1), .val (.long q2), .second, .val (.long q3), .second, .val (.int v2_0), .val (.int v7_0), .val (.int v12_0), .val (.int v17_0), .val (.int v22_0), .val (.int v27_0), .val (.ref b32)] [(.long q3), (.int v7_0), (.long q2), (.int v2_0), (.ref b32)])) := K37.trans (by
      show Steps p.tables e below (T36.setTop (mkF m 91 #[.val (.int p0), .val (.int p1), .val (.long q2), .second, .val (.long q3), .second, .val (.int v2_0), .val (.int v7_0), .val (.int v12_0), .val (.int v17_0), .val (.int v22_0), .val (.int v27_0), .unset] [(.ref b32)])) _
      refine XS.astore X36.here hx rfl (hb hby at_91) rfl rfl (l' := #[.val (.int p0), .val (.int p1), .val (.long q2), .second, .val (.long q3), .second, .val (.int v2_0), .val (.int v7_0), .val (.int v12_0), .val (.int v17_0), .val (.int v22_0), .val (.int v27_0), .val (.ref b32)]) rfl ?_
      show Steps p.tables e below (T36.setTop (mkF m 93 #[.val (.int p0), .val (.int p1), .val (.long q2), .second, .val (.long q3), .second, .val (.int v2_0), .val (.int v7_0), .val (.int v12_0), .val (.int v17_0), .val (.int v22_0), .val (.int v27_0), .val (.ref b32)] [])) _
      refine XS.aload X36.here hx rfl (hb hby at_93) rfl rfl ?_
      show Steps p.tables e below (T36.setTop (mkF m 95 #[.val (.int p0), .val (.int p1), .val (.long q2), .second, .val (.long q3), .second, .val (.int v2_0), .val (.int v7_0), .val (.int v12_0), .val (.int v17_0), .val (.int v22_0), .val (.int v27_0), .val (.ref b32)] [(.ref b32)])) _
      refine XS.iload X36.here hx rfl (hb hby at_95) rfl ?_
      show Steps p.tables e below (T36.setTop (mkF m 97 #[.val (.int p0), .val (.int p1), .val (.long q2), .second, .val (.long q3), .second, .val (.int v2_0), .val (.int v7_0), .val (.int v12_0), .val (.int v17_0), .val (.int v22_0), .val (.int v27_0), .val (.ref b32)] [(.int v2_0), (.ref b32)])) _
      refine XS.lloadN X36.here hx rfl (hb hby at_97) rfl ?_
      show Steps p.tables e below (T36.setTop (mkF m 98 #[.val (.int p0), .val (.int p1), .val (.long q2), .second, .val (.long q3), .second, .val (.int v2_0), .val (.int v7_0), .val (.int v12_0), .val (.int v17_0), .val (.int v22_0), .val (.int v27_0), .val (.ref b32)] [(.long q2), (.int v2_0), (.ref b32)])) _
      refine XS.iload X36.here hx rfl (hb hby at_98) rfl ?_
      show Steps p.tables e below (T36.setTop (mkF m 100 #[.val (.int p0), .val (.int p1), .val (.long q2), .second, .val (.long q3), .second, .val (.int v2_0), .val (.int v7_0), .val (.int v12_0), .val (.int v17_0), .val (.int v22_0), .val (.int v27_0), .val (.ref b32)] [(.int v7_0), (.long q2), (.int v2_0), (.ref b32)])) _
      refine XS.lload X36.here hx rfl (hb hby at_100) rfl ?_
      show Steps p.tables e below (T36.setTop (mkF m 102 #[.val (.int p0), .val (.int p1), .val (.long q2), .second, .val (.long q3), .second, .val (.int v2_0), .val (.int v7_0), .val (.int v12_0), .val (.int v17_0), .val (.int v22_0), .val (.int v27_0), .val (.ref b32)] [(.long q3), (.int v7_0), (.long q2), (.int v2_0), (.ref b32)])) _
      exact Steps.refl _)
    have Z_39 : n0 ≤ T36.heap.size := (Nat.le_trans Z_35 Kp36.1)
    obtain ⟨cq40, kq40, q40a, q40b, q40c⟩ := isOf hZ rfl Q36_0
    obtain ⟨_, _, ⟨T40, L40, k40, n40⟩, -, X40, ⟨Lc40, hQ40, l40, y40, z40⟩, st40⟩ := X36.virtualBack hx (y := (⟨"com/example/spanfold/spanfold/RangeList", "add", "(ZJZJ)V"⟩ : MethodName)) (z := (⟨"com/example/spanfold/spanfold/RangeList", "add", "(ZJZJ)V"⟩ : MethodName)) hown (mvT hZ (hw _ (List.mem_of_getElem? (i := 17) rfl))) (mvT hZ (hw _ (List.mem_of_getElem? (i := 18) rfl))) (notFace_of_selects (args := #[]) (mvT hZ (hw _ (List.mem_of_getElem? (i := 20) rfl)))) (mvT hZ (hw _ (List.mem_of_getElem? (i := 20) rfl))) (mvT hZ (hw _ (List.mem_of_getElem? (i := 19) rfl))) (by decide) (backOf (W := 0) (rm3g l Z a0 hw [] b32 v2_0 q2 v7_0 q3 b36_b5 b36_b12 b36_b23 k5_36 k12_36 k23_36 (0 : Int32) (List.replicate 3 (.long (0 : Int64))) (List.replicate 3 (.long (0 : Int64))) (List.replicate 3 (.int (0 : Int32))) (0 : Int32) 0 T36.heap n0 Z_39 Q36_0 Q36_4 Q36_7 Q36_10 Q36_1 Q36_2 Q36_5 Q36_8 ne_b32_b36_b5 ne_b32_b36_b12 ne_b32_b36_b23 ne36_14 ne36_15 ne36_16 ge_b32 (rfl) (by decide) (by decide) (by decide) (by decide) (rfl) (by decide) (by decide)) hZ (hw _ (List.mem_of_getElem? (i := 21) rfl)) (hw _ (List.mem_of_getElem? (i := 2) rfl)) (by decide) (by decide)) q40a q40c (g := (mkF m 102 #[.val (.int p0), .val (.int p1), .val (.long q2), .second, .val (.long q3), .second, .val (.int v2_0), .val (.int v7_0), .val (.int v12_0), .val (.int v17_0), .val (.int v22_0), .val (.int v27_0), .val (.ref b32)] [(.long q3), (.int v7_0), (.long q2), (.int v2_0), (.ref b32)])) rfl (by rw [hml]; rfl) K38 (argsL := [(.int v2_0), (.long q2), (.int v7_0), (.long q3)]) (rest := []) (lenOf pd_5 rfl) rfl (by show 2 * 0 + _ ≤ _; exact Nat.le_of_eq rfl) (hb hby at_102) (fun _ _ => ⟨rfl, rfl, (by decide : 4 + 3 ≤ _), (by decide : 13 + 24 ≤ _)⟩)
    dsimp only [Pt.U, Pt.locs, Pt.cells, Pt.slots] at X40 l40 y40 z40 st40 hQ40
    subst l40 y40 z40
    obtain ⟨b40_b19_b4, b40_b32_b4, b40_b50_b4, k4_19_40, k4_32_40, k4_50_40, rfl, N40, Kp40, Q40_0, Q40_1, Q40_2, Q40_3, Q40_4, Q40_5, Q40_6, Q40_7, Q40_8, Q40_9, Q40_10, sz40_b19_b4, sz40_b32_b4, sz40_b50_b4, ne40_14, ne40_15, ne40_16⟩ := hQ40
    have ne_b32_b40_b19_b4 : b32 ≠ b40_b19_b4 := Nat.ne_of_lt (Nat.lt_of_lt_of_le Q36_0.lt sz40_b19_b4)
    have ne_b36_b5_b40_b19_b4 : b36_b5 ≠ b40_b19_b4 := Nat.ne_of_lt (Nat.lt_of_lt_of_le Q36_2.lt sz40_b19_b4)
    have ne_b36_b12_b40_b19_b4 : b36_b12 ≠ b40_b19_b4 := Nat.ne_of_lt (Nat.lt_of_lt_of_le Q36_5.lt sz40_b19_b4)
    have ne_b36_b23_b40_b19_b4 : b36_b23 ≠ b40_b19_b4 := Nat.ne_of_lt (Nat.lt_of_lt_of_le Q36_8.lt sz40_b19_b4)
    have ge_b40_b19_b4 : n0 ≤ b40_b19_b4 := Nat.le_trans Z_39 sz40_b19_b4
    have ne_b32_b40_b32_b4 : b32 ≠ b40_b32_b4 := Nat.ne_of_lt (Nat.lt_of_lt_of_le Q36_0.lt sz40_b32_b4)
    have ne_b36_b5_b40_b32_b4 : b36_b5 ≠ b40_b32_b4 := Nat.ne_of_lt (Nat.lt_of_lt_of_le Q36_2.lt sz40_b32_b4)
    have ne_b36_b12_b40_b32_b4 : b36_b12 ≠ b40_b32_b4 := Nat.ne_of_lt (Nat.lt_of_lt_of_le Q36_5.lt sz40_b32_b4)
    have ne_b36_b23_b40_b32_b4 : b36_b23 ≠ b40_b32_b4 := Nat.ne_of_lt (Nat.lt_of_lt_of_le Q36_8.lt sz40_b32_b4)
    have ge_b40_b32_b4 : n0 ≤ b40_b32_b4 := Nat.le_trans Z_39 sz40_b32_b4
    have ne_b32_b40_b50_b4 : b32 ≠ b40_b50_b4 := Nat.ne_of_lt (Nat.lt_of_lt_of_le Q36_0.lt sz40_b50_b4)
    have ne_b36_b5_b40_b50_b4 : b36_b5 ≠ b40_b50_b4 := Nat.ne_of_lt (Nat.lt_of_lt_of_le Q36_2.lt sz40_b50_b4)
    have ne_b36_b12_b40_b50_b4 : b36_b12 ≠ b40_b50_b4 := Nat.ne_of_lt (Nat.lt_of_lt_of_le Q36_5.lt sz40_b50_b4)
    have ne_b36_b23_b40_b50_b4 : b36_b23 ≠ b40_b50_b4 := Nat.ne_of_lt (Nat.lt_of_lt_of_le Q36_8.lt sz40_b50_b4)
    have ge_b40_b50_b4 : n0 ≤ b40_b50_b4 := Nat.le_trans Z_39 sz40_b50_b4
    have Q40_4f : Fld Z T40.heap b32 "com/example/spanfold/spanfold/RangeList" "size" "I" (.int (1 : Int32)) := Q40_4
    have N40' := Fr.app N36' N40
    have K41 : Steps p.tables e below _ (T40.setTop (mkF m 105 #[.val (.int p0), .val (.int p1), .val (.long q2), .second, .val (.long q3), .second, .val (.int v2_0), .val (.int v7_0), .val (.int v12_0), .val (.int v17_0), .val (.int v22_0), .val (.int v27_0), .val (.ref b32)] [])) := st40
    have K42 : Steps p.tables e below _ (T40.setTop (mkF m 114 #[.val (.int p0), .val (.int p1), .val (.long q2), .second, .val (.long q3), .second, .val (.int v2_0), .val (.int v7_0), .val (.int v12_0), .val (.int v17_0), .val (.int v22_0), .val (.int v27_0), .val (.ref b32)] [(.long q2), (.int v17_0), (.long q3), (.int v12_0), (.ref b32)])) := K41.trans (by
      show Steps p.tables e below (T40.setTop (mkF m 105 #[.val (.int p0), .val (.int p1), .val (.long q2), .second, .val (.long q3), .second, .val (.int v2_0), .val (.int v7_0), .val (.int v12_0), .val (.int v17_0), .val (.int v22_0), .val (.int v27_0), .val (.ref b32)] [])) _
      refine XS.aload X40.here hx rfl (hb hby at_105) rfl rfl ?_
      show Steps p.tables e below (T40.setTop (mkF m 107 #[.val (.int p0), .val (.int p1), .val (.long q2), .second, .val (.long q3), .second, .val (.int v2_0), .val (.int v7_0), .val (.int v12_0), .val (.int v17_0), .val (.int v22_0), .val (.int v27_0), .val (.ref b32)] [(.ref b32)])) _
      refine XS.iload X40.here hx rfl (hb hby at_107) rfl ?_
      show Steps p.tables e below (T40.setTop (mkF m 109 #[.val (.int p0), .val (.int p1), .val (.long q2), .second, .val (.long q3), .second, .val (.int v2_0), .val (.int v7_0), .val (.int v12_0), .val (.int v17_0), .val (.int v22_0), .val (.int v27_0), .val (.ref b32)] [(.int v12_0), (.ref b32)])) _
      refine XS.lload X40.here hx rfl (hb hby at_109) rfl ?_
      show Steps p.tables e below (T40.setTop (mkF m 111 #[.val (.int p0), .val (.int p1), .val (.long q2), .second, .val (.long q3), .second, .val (.int v2_0), .val (.int v7_0), .val (.int v12_0), .val (.int v17_0), .val (.int v22_0), .val (.int v27_0), .val (.ref b32)] [(.long q3), (.int v12_0), (.ref b32)])) _
      refine XS.iload X40.here hx rfl (hb hby at_111) rfl ?_
      show Steps p.tables e below (T40.setTop (mkF m 113 #[.val (.int p0), .val (.int p1), .val (.long q2), .second, .val (.long q3), .second, .val (.int v2_0), .val (.int v7_0), .val (.int v12_0), .val (.int v17_0), .val (.int v22_0), .val (.int v27_0), .val (.ref b32)] [(.int v17_0), (.long q3), (.int v12_0), (.ref b32)])) _
      refine XS.lloadN X40.here hx rfl (hb hby at_113) rfl ?_
      show Steps p.tables e below (T40.setTop (mkF m 114 #[.val (.int p0), .val (.int p1), .val (.long q2), .second, .val (.long q3), .second, .val (.int v2_0), .val (.int v7_0), .val (.int v12_0), .val (.int v17_0), .val (.int v22_0), .val (.int v27_0), .val (.ref b32)] [(.long q2), (.int v17_0), (.long q3), (.int v12_0), (.ref b32)])) _
      exact Steps.refl _)
    have Z_43 : n0 ≤ T40.heap.size := (Nat.le_trans Z_39 Kp40.1)
    obtain ⟨cq44, kq44, q44a, q44b, q44c⟩ := isOf hZ rfl Q40_0
    obtain ⟨_, _, ⟨T44, L44, k44, n44⟩, -, X44, ⟨Lc44, hQ44, l44, y44, z44⟩, st44⟩ := X40.virtualBack hx (y := (⟨"com/example/spanfold/spanfold/RangeList", "add", "(ZJZJ)V"⟩ : MethodName)) (z := (⟨"com/example/spanfold/spanfold/RangeList", "add", "(ZJZJ)V"⟩ : MethodName)) hown (mvT hZ (hw _ (List.mem_of_getElem? (i := 17) rfl))) (mvT hZ (hw _ (List.mem_of_getElem? (i := 18) rfl))) (notFace_of_selects (args := #[]) (mvT hZ (hw _ (List.mem_of_getElem? (i := 20) rfl)))) (mvT hZ (hw _ (List.mem_of_getElem? (i := 20) rfl))) (mvT hZ (hw _ (List.mem_of_getElem? (i := 19) rfl))) (by decide) (backOf (W := 0) (rm3n l Z a0 hw [] b32 v12_0 q3 v17_0 q2 b40_b19_b4 b40_b32_b4 b40_b50_b4 k4_19_40 k4_32_40 k4_50_40 (8 : Int32) ((own_cp 8 (0 : Int32).toNatClampNeg (List.replicate 3 (.long (0 : Int64))) (.long (0 : Int64))).set 0 (.long (if v2_0 = (0 : Int32) then (0 : Int64) else q2))) ((own_cp 8 (0 : Int32).toNatClampNeg (List.replicate 3 (.long (0 : Int64))) (.long (0 : Int64))).set 0 (.long (if v7_0 = (0 : Int32) then (0 : Int64) else q3))) ((own_cp 8 (0 : Int32).toNatClampNeg (List.replicate 3 (.int (0 : Int32))) (.int (0 : Int32))).set 0 (.int ((((if v2_0 = (0 : Int32) then (0 : Int32) else (1 : Int32)) ||| (if v7_0 = (0 : Int32) then (0 : Int32) else (2 : Int32))).toInt8.toInt32).toInt8.toInt32))) (1 : Int32) 1 T40.heap n0 Z_43 Q40_0 Q40_1 Q40_2 Q40_3 Q40_4f Q40_6 Q40_8 Q40_10 ne_b32_b40_b19_b4 ne_b32_b40_b32_b4 ne_b32_b40_b50_b4 ne40_14 ne40_15 ne40_16 ge_b32 ge_b40_b19_b4 ge_b40_b32_b4 ge_b40_b50_b4 (by decide) (by decide) (rfl) (Nat.le_of_ble_eq_true rfl) (Nat.le_of_ble_eq_true rfl) (Nat.le_of_ble_eq_true rfl)) hZ (hw _ (List.mem_of_getElem? (i := 21) rfl)) (hw _ (List.mem_of_getElem? (i := 2) rfl)) (by decide) (by decide)) q44a q44c (g := (mkF m 114 #[.val (.int p0), .val (.int p1), .val (.long q2), .second, .val (.long q3), .second, .val (.int v2_0), .val (.int v7_0), .val (.int v12_0), .val (.int v17_0), .val (.int v22_0), .val (.int v27_0), .val (.ref b32)] [(.long q2), (.int v17_0), (.long q3), (.int v12_0), (.ref b32)])) rfl (by rw [hml]; rfl) K42 (argsL := [(.int v12_0), (.long q3), (.int v17_0), (.long q2)]) (rest := []) (lenOf pd_5 rfl) rfl (by show 2 * 0 + _ ≤ _; exact Nat.le_of_eq rfl) (hb hby at_114) (fun _ _ => ⟨rfl, rfl, (by decide : 7 + 0 ≤ _), (by decide : 37 + 0 ≤ _)⟩)
    dsimp only [Pt.U, Pt.locs, Pt.cells, Pt.slots] at X44 l44 y44 z44 st44 hQ44
    subst l44 y44 z44
    obtain ⟨rfl, N44, Kp44, Q44_0, Q44_1, Q44_2, Q44_3, Q44_4, Q44_5, Q44_6, Q44_7⟩ := hQ44
    have Q44_4f : Fld Z T44.heap b32 "com/example/spanfold/spanfold/RangeList" "size" "I" (.int (2 : Int32)) := Q44_4
    have N44' := Fr.app N40' N44
    have K45 : Steps p.tables e below _ (T44.setTop (mkF m 117 #[.val (.int p0), .val (.int p1), .val (.long q2), .second, .val (.long q3), .second, .val (.int v2_0), .val (.int v7_0), .val (.int v12_0), .val (.int v17_0), .val (.int v22_0), .val (.int v27_0), .val (.ref b32)] [])) := st44
    have K46 : Steps p.tables e below _ (T44.setTop (mkF m 131 #[.val (.int p0), .val (.int p1), .val (.long q2), .second, .val (.long q3), .second, .val (.int v2_0), .val (.int v7_0), .val (.int v12_0), .val (.int v17_0), .val (.int v22_0), .val (.int v27_0), .val (.ref b32)] [(.long (q2 + q3)), (.int v27_0), (.long (q2 ^^^ q3)), (.int v22_0), (.ref b32)])) := K45.trans (by
      show Steps p.tables e below (T44.setTop (mkF m 117 #[.val (.int p0), .val (.int p1), .val (.long q2), .second, .val (.long q3), .second, .val (.int v2_0), .val (.int v7_0), .val (.int v12_0), .val (.int v17_0), .val (.int v22_0), .val (.int v27_0), .val (.ref b32)] [])) _
      refine XS.aload X44.here hx rfl (hb hby at_117) rfl rfl ?_
      show Steps p.tables e below (T44.setTop (mkF m 119 #[.val (.int p0), .val (.int p1), .val (.long q2), .second, .val (.long q3), .second, .val (.int v2_0), .val (.int v7_0), .val (.int v12_0), .val (.int v17_0), .val (.int v22_0), .val (.int v27_0), .val (.ref b32)] [(.ref b32)])) _
      refine XS.iload X44.here hx rfl (hb hby at_119) rfl ?_
      show Steps p.tables e below (T44.setTop (mkF m 121 #[.val (.int p0), .val (.int p1), .val (.long q2), .second, .val (.long q3), .second, .val (.int v2_0), .val (.int v7_0), .val (.int v12_0), .val (.int v17_0), .val (.int v22_0), .val (.int v27_0), .val (.ref b32)] [(.int v22_0), (.ref b32)])) _
      refine XS.lloadN X44.here hx rfl (hb hby at_121) rfl ?_
      show Steps p.tables e below (T44.setTop (mkF m 122 #[.val (.int p0), .val (.int p1), .val (.long q2), .second, .val (.long q3), .second, .val (.int v2_0), .val (.int v7_0), .val (.int v12_0), .val (.int v17_0), .val (.int v22_0), .val (.int v27_0), .val (.ref b32)] [(.long q2), (.int v22_0), (.ref b32)])) _
      refine XS.lload X44.here hx rfl (hb hby at_122) rfl ?_
      show Steps p.tables e below (T44.setTop (mkF m 124 #[.val (.int p0), .val (.int p1), .val (.long q2), .second, .val (.long q3), .second, .val (.int v2_0), .val (.int v7_0), .val (.int v12_0), .val (.int v17_0), .val (.int v22_0), .val (.int v27_0), .val (.ref b32)] [(.long q3), (.long q2), (.int v22_0), (.ref b32)])) _
      refine XS.lxor X44.here hx rfl (hb hby at_124) rfl ?_
      show Steps p.tables e below (T44.setTop (mkF m 125 #[.val (.int p0), .val (.int p1), .val (.long q2), .second, .val (.long q3), .second, .val (.int v2_0), .val (.int v7_0), .val (.int v12_0), .val (.int v17_0), .val (.int v22_0), .val (.int v27_0), .val (.ref b32)] [(.long (q2 ^^^ q3)), (.int v22_0), (.ref b32)])) _
      refine XS.iload X44.here hx rfl (hb hby at_125) rfl ?_
      show Steps p.tables e below (T44.setTop (mkF m 127 #[.val (.int p0), .val (.int p1), .val (.long q2), .second, .val (.long q3), .second, .val (.int v2_0), .val (.int v7_0), .val (.int v12_0), .val (.int v17_0), .val (.int v22_0), .val (.int v27_0), .val (.ref b32)] [(.int v27_0), (.long (q2 ^^^ q3)), (.int v22_0), (.ref b32)])) _
      refine XS.lloadN X44.here hx rfl (hb hby at_127) rfl ?_
      show Steps p.tables e below (T44.setTop (mkF m 128 #[.val (.int p0), .val (.int p1), .val (.long q2), .second, .val (.long q3), .second, .val (.int v2_0), .val (.int v7_0), .val (.int v12_0), .val (.int v17_0), .val (.int v22_0), .val (.int v27_0), .val (.ref b32)] [(.long q2), (.int v27_0), (.long (q2 ^^^ q3)), (.int v22_0), (.ref b32)])) _
      refine XS.lload X44.here hx rfl (hb hby at_128) rfl ?_
      show Steps p.tables e below (T44.setTop (mkF m 130 #[.val (.int p0), .val (.int p1), .val (.long q2), .second, .val (.long q3), .second, .val (.int v2_0), .val (.int v7_0), .val (.int v12_0), .val (.int v17_0), .val (.int v22_0), .val (.int v27_0), .val (.ref b32)] [(.long q3), (.long q2), (.int v27_0), (.long (q2 ^^^ q3)), (.int v22_0), (.ref b32)])) _
      refine XS.ladd X44.here hx rfl (hb hby at_130) rfl ?_
      show Steps p.tables e below (T44.setTop (mkF m 131 #[.val (.int p0), .val (.int p1), .val (.long q2), .second, .val (.long q3), .second, .val (.int v2_0), .val (.int v7_0), .val (.int v12_0), .val (.int v17_0), .val (.int v22_0), .val (.int v27_0), .val (.ref b32)] [(.long (q2 + q3)), (.int v27_0), (.long (q2 ^^^ q3)), (.int v22_0), (.ref b32)])) _
      exact Steps.refl _)
    have Z_47 : n0 ≤ T44.heap.size := (Nat.le_trans Z_43 Kp44.1)
    obtain ⟨cq48, kq48, q48a, q48b, q48c⟩ := isOf hZ rfl Q44_0
    obtain ⟨_, _, ⟨T48, L48, k48, n48⟩, -, X48, ⟨Lc48, hQ48, l48, y48, z48⟩, st48⟩ := X44.virtualBack hx (y := (⟨"com/example/spanfold/spanfold/RangeList", "add", "(ZJZJ)V"⟩ : MethodName)) (z := (⟨"com/example/spanfold/spanfold/RangeList", "add", "(ZJZJ)V"⟩ : MethodName)) hown (mvT hZ (hw _ (List.mem_of_getElem? (i := 17) rfl))) (mvT hZ (hw _ (List.mem_of_getElem? (i := 18) rfl))) (notFace_of_selects (args := #[]) (mvT hZ (hw _ (List.mem_of_getElem? (i := 20) rfl)))) (mvT hZ (hw _ (List.mem_of_getElem? (i := 20) rfl))) (mvT hZ (hw _ (List.mem_of_getElem? (i := 19) rfl))) (by decide) (backOf (W := 0) (rm3n l Z a0 hw [] b32 v22_0 (q2 ^^^ q3) v27_0 (q2 + q3) b40_b19_b4 b40_b32_b4 b40_b50_b4 k4_19_40 k4_32_40 k4_50_40 (8 : Int32) (((own_cp 8 (0 : Int32).toNatClampNeg (List.replicate 3 (.long (0 : Int64))) (.long (0 : Int64))).set 0 (.long (if v2_0 = (0 : Int32) then (0 : Int64) else q2))).set 1 (.long (if v12_0 = (0 : Int32) then (0 : Int64) else q3))) (((own_cp 8 (0 : Int32).toNatClampNeg (List.replicate 3 (.long (0 : Int64))) (.long (0 : Int64))).set 0 (.long (if v7_0 = (0 : Int32) then (0 : Int64) else q3))).set 1 (.long (if v17_0 = (0 : Int32) then (0 : Int64) else q2))) (((own_cp 8 (0 : Int32).toNatClampNeg (List.replicate 3 (.int (0 : Int32))) (.int (0 : Int32))).set 0 (.int ((((if v2_0 = (0 : Int32) then (0 : Int32) else (1 : Int32)) ||| (if v7_0 = (0 : Int32) then (0 : Int32) else (2 : Int32))).toInt8.toInt32).toInt8.toInt32))).set 1 (.int ((((if v12_0 = (0 : Int32) then (0 : Int32) else (1 : Int32)) ||| (if v17_0 = (0 : Int32) then (0 : Int32) else (2 : Int32))).toInt8.toInt32).toInt8.toInt32))) (2 : Int32) 2 T44.heap n0 Z_47 Q44_0 Q44_1 Q44_2 Q44_3 Q44_4f Q44_5 Q44_6 Q44_7 ne_b32_b40_b19_b4 ne_b32_b40_b32_b4 ne_b32_b40_b50_b4 ne40_14 ne40_15 ne40_16 ge_b32 ge_b40_b19_b4 ge_b40_b32_b4 ge_b40_b50_b4 (by decide) (by decide) (rfl) (Nat.le_of_ble_eq_true rfl) (Nat.le_of_ble_eq_true rfl) (Nat.le_of_ble_eq_true rfl)) hZ (hw _ (List.mem_of_getElem? (i := 21) rfl)) (hw _ (List.mem_of_getElem? (i := 2) rfl)) (by decide) (by decide)) q48a q48c (g := (mkF m 131 #[.val (.int p0), .val (.int p1), .val (.long q2), .second, .val (.long q3), .second, .val (.int v2_0), .val (.int v7_0), .val (.int v12_0), .val (.int v17_0), .val (.int v22_0), .val (.int v27_0), .val (.ref b32)] [(.long (q2 + q3)), (.int v27_0), (.long (q2 ^^^ q3)), (.int v22_0), (.ref b32)])) rfl (by rw [hml]; rfl) K46 (argsL := [(.int v22_0), (.long (q2 ^^^ q3)), (.int v27_0), (.long (q2 + q3))]) (rest := []) (lenOf pd_5 rfl) rfl (by show 2 * 0 + _ ≤ _; exact Nat.le_of_eq rfl) (hb hby at_131) (fun _ _ => ⟨rfl, rfl, (by decide : 7 + 0 ≤ _), (by decide : 37 + 0 ≤ _)⟩)
    dsimp only [Pt.U, Pt.locs, Pt.cells, Pt.slots] at X48 l48 y48 z48 st48 hQ48
    subst l48 y48 z48
    obtain ⟨rfl, N48, Kp48, Q48_0, Q48_1, Q48_2, Q48_3, Q48_4, Q48_5, Q48_6, Q48_7⟩ := hQ48
    have Q48_4f : Fld Z T48.heap b32 "com/example/spanfold/spanfold/RangeList" "size" "I" (.int (3 : Int32)) := Q48_4
    have N48' := Fr.app N44' N48
    have K49 : Steps p.tables e below _ (T48.setTop (mkF m 134 #[.val (.int p0), .val (.int p1), .val (.long q2), .second, .val (.long q3), .second, .val (.int v2_0), .val (.int v7_0), .val (.int v12_0), .val (.int v17_0), .val (.int v22_0), .val (.int v27_0), .val (.ref b32)] [])) := st48
    have K50 : Steps p.tables e below _ (T48.setTop (mkF m 137 #[.val (.int p0), .val (.int p1), .val (.long q2), .second, .val (.long q3), .second, .val (.int v2_0), .val (.int v7_0), .val (.int v12_0), .val (.int v17_0), .val (.int v22_0), .val (.int v27_0), .val (.ref b32)] [(.int (0 : Int32)), (.ref b32)])) := K49.trans (by
      show Steps p.tables e below (T48.setTop (mkF m 134 #[.val (.int p0), .val (.int p1), .val (.long q2), .second, .val (.long q3), .second, .val (.int v2_0), .val (.int v7_0), .val (.int v12_0), .val (.int v17_0), .val (.int v22_0), .val (.int v27_0), .val (.ref b32)] [])) _
      refine XS.aload X48.here hx rfl (hb hby at_134) rfl rfl ?_
      show Steps p.tables e below (T48.setTop (mkF m 136 #[.val (.int p0), .val (.int p1), .val (.long q2), .second, .val (.long q3), .second, .val (.int v2_0), .val (.int v7_0), .val (.int v12_0), .val (.int v17_0), .val (.int v22_0), .val (.int v27_0), .val (.ref b32)] [(.ref b32)])) _
      refine XS.iconst X48.here hx rfl (hb hby at_136) ?_
      show Steps p.tables e below (T48.setTop (mkF m 137 #[.val (.int p0), .val (.int p1), .val (.long q2), .second, .val (.long q3), .second, .val (.int v2_0), .val (.int v7_0), .val (.int v12_0), .val (.int v17_0), .val (.int v22_0), .val (.int v27_0), .val (.ref b32)] [(.int (0 : Int32)), (.ref b32)])) _
      exact Steps.refl _)
    have Z_51 : n0 ≤ T48.heap.size := (Nat.le_trans Z_47 Kp48.1)
    obtain ⟨cq52, kq52, q52a, q52b, q52c⟩ := isOf hZ rfl Q48_0
    obtain ⟨_, _, ⟨T52, L52, k52, n52⟩, -, X52, ⟨Lc52, hQ52, l52, y52, z52⟩, st52⟩ := X48.virtualBack hx (y := (⟨"com/example/spanfold/spanfold/RangeList", "hasFrom", "(I)Z"⟩ : MethodName)) (z := (⟨"com/example/spanfold/spanfold/RangeList", "hasFrom", "(I)Z"⟩ : MethodName)) hown (mvT hZ (hw _ (List.mem_of_getElem? (i := 42) rfl))) (mvT hZ (hw _ (List.mem_of_getElem? (i := 43) rfl))) (notFace_of_selects (args := #[]) (mvT hZ (hw _ (List.mem_of_getElem? (i := 45) rfl)))) (mvT hZ (hw _ (List.mem_of_getElem? (i := 45) rfl))) (mvT hZ (hw _ (List.mem_of_getElem? (i := 44) rfl))) (by decide) (backOf (W := 0) (rm8 l Z a0 hw [] b32 (0 : Int32) b40_b50_b4 k4_50_40 (8 : Int32) ((((own_cp 8 (0 : Int32).toNatClampNeg (List.replicate 3 (.int (0 : Int32))) (.int (0 : Int32))).set 0 (.int ((((if v2_0 = (0 : Int32) then (0 : Int32) else (1 : Int32)) ||| (if v7_0 = (0 : Int32) then (0 : Int32) else (2 : Int32))).toInt8.toInt32).toInt8.toInt32))).set 1 (.int ((((if v12_0 = (0 : Int32) then (0 : Int32) else (1 : Int32)) ||| (if v17_0 = (0 : Int32) then (0 : Int32) else (2 : Int32))).toInt8.toInt32).toInt8.toInt32))).set 2 (.int ((((if v22_0 = (0 : Int32) then (0 : Int32) else (1 : Int32)) ||| (if v27_0 = (0 : Int32) then (0 : Int32) else (2 : Int32))).toInt8.toInt32).toInt8.toInt32))) ((((if v2_0 = (0 : Int32) then (0 : Int32) else (1 : Int32)) ||| (if v7_0 = (0 : Int32) then (0 : Int32) else (2 : Int32))).toInt8.toInt32).toInt8.toInt32) (3 : Int32) T48.heap n0 Z_51 Q48_3 Q48_4f Q48_7 (by decide) (by decide) (by decide) (rfl)) hZ (hw _ (List.mem_of_getElem? (i := 46) rfl)) (hw _ (List.mem_of_getElem? (i := 2) rfl)) (by decide) (by decide)) q52a q52c (g := (mkF m 137 #[.val (.int p0), .val (.int p1), .val (.long q2), .second, .val (.long q3), .second, .val (.int v2_0), .val (.int v7_0), .val (.int v12_0), .val (.int v17_0), .val (.int v22_0), .val (.int v27_0), .val (.ref b32)] [(.int (0 : Int32)), (.ref b32)])) rfl (by rw [hml]; rfl) K50 (argsL := [(.int (0 : Int32))]) (rest := []) (lenOf pd_6 rfl) rfl (by show 2 * 0 + _ ≤ _; exact Nat.le_of_eq rfl) (hb hby at_137) (fun _ _ => ⟨rfl, rfl, (by decide : 7 + 0 ≤ _), (by decide : 37 + 0 ≤ _)⟩)
    dsimp only [Pt.U, Pt.locs, Pt.cells, Pt.slots] at X52 l52 y52 z52 st52 hQ52
    subst l52 y52 z52
    obtain ⟨rfl, N52, eh52⟩ := hQ52
    have N52' := Fr.app N48' N52
    have K54 : Steps p.tables e below _ (T52.setTop (mkF m 140 #[.val (.int p0), .val (.int p1), .val (.long q2), .second, .val (.long q3), .second, .val (.int v2_0), .val (.int v7_0), .val (.int v12_0), .val (.int v17_0), .val (.int v22_0), .val (.int v27_0), .val (.ref b32)] [(.int ((if (((((if v2_0 = (0 : Int32) then (0 : Int32) else (1 : Int32)) ||| (if v7_0 = (0 : Int32) then (0 : Int32) else (2 : Int32))).toInt8.toInt32).toInt8.toInt32) &&& (1 : Int32)) = (0 : Int32) then (0 : Int32) else (1 : Int32)) &&& 1))])) := st52
    obtain ⟨r53, hr53⟩ : ∃ z : Int32, ((if (((((if v2_0 = (0 : Int32) then (0 : Int32) else (1 : Int32)) ||| (if v7_0 = (0 : Int32) then (0 : Int32) else (2 : Int32))).toInt8.toInt32).toInt8.toInt32) &&& (1 : Int32)) = (0 : Int32) then (0 : Int32) else (1 : Int32)) &&& 1) = z := ⟨_, rfl⟩
    rw [hr53] at K54
    have K55 : Steps p.tables e below _ (T52.setTop (mkF m 142 #[.val (.int p0), .val (.int p1), .val (.long q2), .second, .val (.long q3), .second, .val (.int v2_0), .val (.int v7_0), .val (.int v12_0), .val (.int v17_0), .val (.int v22_0), .val (.int v27_0), .val (.ref b32)] [(.int v2_0), (.int r53)])) := K54.trans (by
      show Steps p.tables e below (T52.setTop (mkF m 140 #[.val (.int p0), .val (.int p1), .val (.long q2), .second, .val (.long q3), .second, .val (.int v2_0), .val (.int v7_0), .val (.int v12_0), .val (.int v17_0), .val (.int v22_0), .val (.int v27_0), .val (.ref b32)] [(.int r53)])) _
      refine XS.iload X52.here hx rfl (hb hby at_140) rfl ?_
      show Steps p.tables e below (T52.setTop (mkF m 142 #[.val (.int p0), .val (.int p1), .val (.long q2), .second, .val (.long q3), .second, .val (.int v2_0), .val (.int v7_0), .val (.int v12_0), .val (.int v17_0), .val (.int v22_0), .val (.int v27_0), .val (.ref b32)] [(.int v2_0), (.int r53)])) _
      exact Steps.refl _)
    obtain ⟨T56, L56, v56_0, X56, e56, N56, hv56_0, S56⟩ : ∃ (T56 : State) (L56 : List Loc) (v56_0 : Int32), Stand p l e room_1 s m #[(.int p0), (.int p1), (.long q2), (.long q3)] below meth c T56 L56 7 37 ∧ T56.heap = T48.heap ∧ Fr n0 L56 ∧ (if r53 = v2_0 then (if ((if (((((if v12_0 = (0 : Int32) then (0 : Int32) else (1 : Int32)) ||| (if v17_0 = (0 : Int32) then (0 : Int32) else (2 : Int32))).toInt8.toInt32).toInt8.toInt32) &&& (1 : Int32)) = (0 : Int32) then (0 : Int32) else (1 : Int32)) &&& 1) = v12_0 then (if ((if (((((if v22_0 = (0 : Int32) then (0 : Int32) else (1 : Int32)) ||| (if v27_0 = (0 : Int32) then (0 : Int32) else (2 : Int32))).toInt8.toInt32).toInt8.toInt32) &&& (1 : Int32)) = (0 : Int32) then (0 : Int32) else (1 : Int32)) &&& 1) = v22_0 then (1 : Int32) else (0 : Int32)) else (0 : Int32)) else (0 : Int32)) = v56_0 ∧ Steps p.tables e below (T52.setTop (mkF m 142 #[.val (.int p0), .val (.int p1), .val (.long q2), .second, .val (.long q3), .second, .val (.int v2_0), .val (.int v7_0), .val (.int v12_0), .val (.int v17_0), .val (.int v22_0), .val (.int v27_0), .val (.ref b32)] [(.int v2_0), (.int r53)])) (T56.setTop (mkF m 172 #[.val (.int p0), .val (.int p1), .val (.long q2), .second, .val (.long q3), .second, .val (.int v2_0), .val (.int v7_0), .val (.int v12_0), .val (.int v17_0), .val (.int v22_0), .val (.int v27_0), .val (.ref b32)] [(.int v56_0)])) := by
      have R56 : Steps p.tables e below (T52.setTop (mkF m 142 #[.val (.int p0), .val (.int p1), .val (.long q2), .second, .val (.long q3), .second, .val (.int v2_0), .val (.int v7_0), .val (.int v12_0), .val (.int v17_0), .val (.int v22_0), .val (.int v27_0), .val (.ref b32)] [(.int v2_0), (.int r53)])) (T52.setTop (mkF m 142 #[.val (.int p0), .val (.int p1), .val (.long q2), .second, .val (.long q3), .second, .val (.int v2_0), .val (.int v7_0), .val (.int v12_0), .val (.int v17_0), .val (.int v22_0), .val (.int v27_0), .val (.ref b32)] [(.int v2_0), (.int r53)])) := Steps.refl _
      by_cases hc142 : r53 = v2_0
      · have K57 : Steps p.tables e below _ (T52.setTop (mkF m 148 #[.val (.int p0), .val (.int p1), .val (.long q2), .second, .val (.long q3), .second, .val (.int v2_0), .val (.int v7_0), .val (.int v12_0), .val (.int v17_0), .val (.int v22_0), .val (.int v27_0), .val (.ref b32)] [(.int (1 : Int32)), (.ref b32)])) := R56.trans (by
          show Steps p.tables e below (T52.setTop (mkF m 142 #[.val (.int p0), .val (.int p1), .val (.long q2), .second, .val (.long q3), .second, .val (.int v2_0), .val (.int v7_0), .val (.int v12_0), .val (.int v17_0), .val (.int v22_0), .val (.int v27_0), .val (.ref b32)] [(.int v2_0), (.int r53)])) _
          refine XS.icmpNo X52.here hx rfl (hb hby at_142) rfl (teq hc142).2 ?_
          show Steps p.tables e below (T52.setTop (mkF m 145 #[.val (.int p0), .val (.int p1), .val (.long q2), .second, .val (.long q3), .second, .val (.int v2_0), .val (.int v7_0), .val (.int v12_0), .val (.int v17_0), .val (.int v22_0), .val (.int v27_0), .val (.ref b32)] [])) _
          refine XS.aload X52.here hx rfl (hb hby at_145) rfl rfl ?_
          show Steps p.tables e below (T52.setTop (mkF m 147 #[.val (.int p0), .val (.int p1), .val (.long q2), .second, .val (.long q3), .second, .val (.int v2_0), .val (.int v7_0), .val (.int v12_0), .val (.int v17_0), .val (.int v22_0), .val (.int v27_0), .val (.ref b32)] [(.ref b32)])) _
          refine XS.iconst X52.here hx rfl (hb hby at_147) ?_
          show Steps p.tables e below (T52.setTop (mkF m 148 #[.val (.int p0), .val (.int p1), .val (.long q2), .second, .val (.long q3), .second, .val (.int v2_0), .val (.int v7_0), .val (.int v12_0), .val (.int v17_0), .val (.int v22_0), .val (.int v27_0), .val (.ref b32)] [(.int (1 : Int32)), (.ref b32)])) _
          exact Steps.refl _)
        obtain ⟨cq58, kq58, q58a, q58b, q58c⟩ := isOf hZ eh52 Q48_0
        obtain ⟨_, _, ⟨T58, L58, k58, n58⟩, -, X58, ⟨Lc58, hQ58, l58, y58, z58⟩, st58⟩ := X52.virtualBack hx (y := (⟨"com/example/spanfold/spanfold/RangeList", "hasFrom", "(I)Z"⟩ : MethodName)) (z := (⟨"com/example/spanfold/spanfold/RangeList", "hasFrom", "(I)Z"⟩ : MethodName)) hown (mvT hZ (hw _ (List.mem_of_getElem? (i := 42) rfl))) (mvT hZ (hw _ (List.mem_of_getElem? (i := 43) rfl))) (notFace_of_selects (args := #[]) (mvT hZ (hw _ (List.mem_of_getElem? (i := 45) rfl)))) (mvT hZ (hw _ (List.mem_of_getElem? (i := 45) rfl))) (mvT hZ (hw _ (List.mem_of_getElem? (i := 44) rfl))) (by decide) (backOf (W := 0) (rm8 l Z a0 hw [] b32 (1 : Int32) b40_b50_b4 k4_50_40 (8 : Int32) ((((own_cp 8 (0 : Int32).toNatClampNeg (List.replicate 3 (.int (0 : Int32))) (.int (0 : Int32))).set 0 (.int ((((if v2_0 = (0 : Int32) then (0 : Int32) else (1 : Int32)) ||| (if v7_0 = (0 : Int32) then (0 : Int32) else (2 : Int32))).toInt8.toInt32).toInt8.toInt32))).set 1 (.int ((((if v12_0 = (0 : Int32) then (0 : Int32) else (1 : Int32)) ||| (if v17_0 = (0 : Int32) then (0 : Int32) else (2 : Int32))).toInt8.toInt32).toInt8.toInt32))).set 2 (.int ((((if v22_0 = (0 : Int32) then (0 : Int32) else (1 : Int32)) ||| (if v27_0 = (0 : Int32) then (0 : Int32) else (2 : Int32))).toInt8.toInt32).toInt8.toInt32))) ((((if v12_0 = (0 : Int32) then (0 : Int32) else (1 : Int32)) ||| (if v17_0 = (0 : Int32) then (0 : Int32) else (2 : Int32))).toInt8.toInt32).toInt8.toInt32) (3 : Int32) T48.heap n0 Z_51 Q48_3 Q48_4f Q48_7 (by decide) (by decide) (by decide) (rfl)) hZ (hw _ (List.mem_of_getElem? (i := 46) rfl)) (hw _ (List.mem_of_getElem? (i := 2) rfl)) (by decide) (by decide)) q58a q58c (g := (mkF m 148 #[.val (.int p0), .val (.int p1), .val (.long q2), .second, .val (.long q3), .second, .val (.int v2_0), .val (.int v7_0), .val (.int v12_0), .val (.int v17_0), .val (.int v22_0), .val (.int v27_0), .val (.ref b32)] [(.int (1 : Int32)), (.ref b32)])) rfl (by rw [hml]; rfl) K57 (argsL := [(.int (1 : Int32))]) (rest := []) (lenOf pd_6 rfl) rfl (by show 2 * 0 + _ ≤ _; exact Nat.le_of_eq rfl) (hb hby at_148) (fun _ _ => ⟨rfl, eh52, (by decide : 7 + 0 ≤ _), (by decide : 37 + 0 ≤ _)⟩)
        dsimp only [Pt.U, Pt.locs, Pt.cells, Pt.slots] at X58 l58 y58 z58 st58 hQ58
        subst l58 y58 z58
        obtain ⟨rfl, N58, eh58⟩ := hQ58
        have N58' := Fr.app N52' N58
        have K60 : Steps p.tables e below _ (T58.setTop (mkF m 151 #[.val (.int p0), .val (.int p1), .val (.long q2), .second, .val (.long q3), .second, .val (.int v2_0), .val (.int v7_0), .val (.int v12_0), .val (.int v17_0), .val (.int v22_0), .val (.int v27_0), .val (.ref b32)] [(.int ((if (((((if v12_0 = (0 : Int32) then (0 : Int32) else (1 : Int32)) ||| (if v17_0 = (0 : Int32) then (0 : Int32) else (2 : Int32))).toInt8.toInt32).toInt8.toInt32) &&& (1 : Int32)) = (0 : Int32) then (0 : Int32) else (1 : Int32)) &&& 1))])) := st58
        obtain ⟨r59, hr59⟩ : ∃ z : Int32, ((if (((((if v12_0 = (0 : Int32) then (0 : Int32) else (1 : Int32)) ||| (if v17_0 = (0 : Int32) then (0 : Int32) else (2 : Int32))).toInt8.toInt32).toInt8.toInt32) &&& (1 : Int32)) = (0 : Int32) then (0 : Int32) else (1 : Int32)) &&& 1) = z := ⟨_, rfl⟩
        rw [hr59] at K60
        have K61 : Steps p.tables e below _ (T58.setTop (mkF m 153 #[.val (.int p0), .val (.int p1), .val (.long q2), .second, .val (.long q3), .second, .val (.int v2_0), .val (.int v7_0), .val (.int v12_0), .val (.int v17_0), .val (.int v22_0), .val (.int v27_0), .val (.ref b32)] [(.int v12_0), (.int r59)])) := K60.trans (by
          show Steps p.tables e below (T58.setTop (mkF m 151 #[.val (.int p0), .val (.int p1), .val (.long q2), .second, .val (.long q3), .second, .val (.int v2_0), .val (.int v7_0), .val (.int v12_0), .val (.int v17_0), .val (.int v22_0), .val (.int v27_0), .val (.ref b32)] [(.int r59)])) _
          refine XS.iload X58.here hx rfl (hb hby at_151) rfl ?_
          show Steps p.tables e below (T58.setTop (mkF m 153 #[.val (.int p0), .val (.int p1), .val (.long q2), .second, .val (.long q3), .second, .val (.int v2_0), .val (.int v7_0), .val (.int v12_0), .val (.int v17_0), .val (.int v22_0), .val (.int v27_0), .val (.ref b32)] [(.int v12_0), (.int r59)])) _
          exact Steps.refl _)
        by_cases hc153 : r59 = v12_0
        · have K62 : Steps p.tables e below _ (T58.setTop (mkF m 159 #[.val (.int p0), .val (.int p1), .val (.long q2), .second, .val (.long q3), .second, .val (.int v2_0), .val (.int v7_0), .val (.int v12_0), .val (.int v17_0), .val (.int v22_0), .val (.int v27_0), .val (.ref b32)] [(.int (2 : Int32)), (.ref b32)])) := K61.trans (by
            show Steps p.tables e below (T58.setTop (mkF m 153 #[.val (.int p0), .val (.int p1), .val (.long q2), .second, .val (.long q3), .second, .val (.int v2_0), .val (.int v7_0), .val (.int v12_0), .val (.int v17_0), .val (.int v22_0), .val (.int v27_0), .val (.ref b32)] [(.int v12_0), (.int r59)])) _
            refine XS.icmpNo X58.here hx rfl (hb hby at_153) rfl (teq hc153).2 ?_
            show Steps p.tables e below (T58.setTop (mkF m 156 #[.val (.int p0), .val (.int p1), .val (.long q2), .second, .val (.long q3), .second, .val (.int v2_0), .val (.int v7_0), .val (.int v12_0), .val (.int v17_0), .val (.int v22_0), .val (.int v27_0), .val (.ref b32)] [])) _
            refine XS.aload X58.here hx rfl (hb hby at_156) rfl rfl ?_
            show Steps p.tables e below (T58.setTop (mkF m 158 #[.val (.int p0), .val (.int p1), .val (.long q2), .second, .val (.long q3), .second, .val (.int v2_0), .val (.int v7_0), .val (.int v12_0), .val (.int v17_0), .val (.int v22_0), .val (.int v27_0), .val (.ref b32)] [(.ref b32)])) _
            refine XS.iconst X58.here hx rfl (hb hby at_158) ?_
            show Steps p.tables e below (T58.setTop (mkF m 159 #[.val (.int p0), .val (.int p1), .val (.long q2), .second, .val (.long q3), .second, .val (.int v2_0), .val (.int v7_0), .val (.int v12_0), .val (.int v17_0), .val (.int v22_0), .val (.int v27_0), .val (.ref b32)] [(.int (2 : Int32)), (.ref b32)])) _
            exact Steps.refl _)
          obtain ⟨cq63, kq63, q63a, q63b, q63c⟩ := isOf hZ eh58 Q48_0
          obtain ⟨_, _, ⟨T63, L63, k63, n63⟩, -, X63, ⟨Lc63, hQ63, l63, y63, z63⟩, st63⟩ := X58.virtualBack hx (y := (⟨"com/example/spanfold/spanfold/RangeList", "hasFrom", "(I)Z"⟩ : MethodName)) (z := (⟨"com/example/spanfold/spanfold/RangeList", "hasFrom", "(I)Z"⟩ : MethodName)) hown (mvT hZ (hw _ (List.mem_of_getElem? (i := 42) rfl))) (mvT hZ (hw _ (List.mem_of_getElem? (i := 43) rfl))) (notFace_of_selects (args := #[]) (mvT hZ (hw _ (List.mem_of_getElem? (i := 45) rfl)))) (mvT hZ (hw _ (List.mem_of_getElem? (i := 45) rfl))) (mvT hZ (hw _ (List.mem_of_getElem? (i := 44) rfl))) (by decide) (backOf (W := 0) (rm8 l Z a0 hw [] b32 (2 : Int32) b40_b50_b4 k4_50_40 (8 : Int32) ((((own_cp 8 (0 : Int32).toNatClampNeg (List.replicate 3 (.int (0 : Int32))) (.int (0 : Int32))).set 0 (.int ((((if v2_0 = (0 : Int32) then (0 : Int32) else (1 : Int32)) ||| (if v7_0 = (0 : Int32) then (0 : Int32) else (2 : Int32))).toInt8.toInt32).toInt8.toInt32))).set 1 (.int ((((if v12_0 = (0 : Int32) then (0 : Int32) else (1 : Int32)) ||| (if v17_0 = (0 : Int32) then (0 : Int32) else (2 : Int32))).toInt8.toInt32).toInt8.toInt32))).set 2 (.int ((((if v22_0 = (0 : Int32) then (0 : Int32) else (1 : Int32)) ||| (if v27_0 = (0 : Int32) then (0 : Int32) else (2 : Int32))).toInt8.toInt32).toInt8.toInt32))) ((((if v22_0 = (0 : Int32) then (0 : Int32) else (1 : Int32)) ||| (if v27_0 = (0 : Int32) then (0 : Int32) else (2 : Int32))).toInt8.toInt32).toInt8.toInt32) (3 : Int32) T48.heap n0 Z_51 Q48_3 Q48_4f Q48_7 (by decide) (by decide) (by decide) (rfl)) hZ (hw _ (List.mem_of_getElem? (i := 46) rfl)) (hw _ (List.mem_of_getElem? (i := 2) rfl)) (by decide) (by decide)) q63a q63c (g := (mkF m 159 #[.val (.int p0), .val (.int p1), .val (.long q2), .second, .val (.long q3), .second, .val (.int v2_0), .val (.int v7_0), .val (.int v12_0), .val (.int v17_0), .val (.int v22_0), .val (.int v27_0), .val (.ref b32)] [(.int (2 : Int32)), (.ref b32)])) rfl (by rw [hml]; rfl) K62 (argsL := [(.int (2 : Int32))]) (rest := []) (lenOf pd_6 rfl) rfl (by show 2 * 0 + _ ≤ _; exact Nat.le_of_eq rfl) (hb hby at_159) (fun _ _ => ⟨rfl, eh58, (by decide : 7 + 0 ≤ _), (by decide : 37 + 0 ≤ _)⟩)
          dsimp only [Pt.U, Pt.locs, Pt.cells, Pt.slots] at X63 l63 y63 z63 st63 hQ63
          subst l63 y63 z63
          obtain ⟨rfl, N63, eh63⟩ := hQ63
          have N63' := Fr.app N58' N63
          have K65 : Steps p.tables e below _ (T63.setTop (mkF m 162 #[.val (.int p0), .val (.int p1), .val (.long q2), .second, .val (.long q3), .second, .val (.int v2_0), .val (.int v7_0), .val (.int v12_0), .val (.int v17_0), .val (.int v22_0), .val (.int v27_0), .val (.ref b32)] [(.int ((if (((((if v22_0 = (0 : Int32) then (0 : Int32) else (1 : Int32)) ||| (if v27_0 = (0 : Int32) then (0 : Int32) else (2 : Int32))).toInt8.toInt32).toInt8.toInt32) &&& (1 : Int32)) = (0 : Int32) then (0 : Int32) else (1 : Int32)) &&& 1))])) := st63
          obtain ⟨r64, hr64⟩ : ∃ z : Int32, ((if (((((if v22_0 = (0 : Int32) then (0 : Int32) else (1 : Int32)) ||| (if v27_0 = (0 : Int32) then (0 : Int32) else (2 : Int32))).toInt8.toInt32).toInt8.toInt32) &&& (1 : Int32)) = (0 : Int32) then (0 : Int32) else (1 : Int32)) &&& 1) = z := ⟨_, rfl⟩
          rw [hr64] at K65
          have K66 : Steps p.tables e below _ (T63.setTop (mkF m 164 #[.val (.int p0), .val (.int p1), .val (.long q2), .second, .val (.long q3), .second, .val (.int v2_0), .val (.int v7_0), .val (.int v12_0), .val (.int v17_0), .val (.int v22_0), .val (.int v27_0), .val (.ref b32)] [(.int v22_0), (.int r64)])) := K65.trans (by
            show Steps p.tables e below (T63.setTop (mkF m 162 #[.val (.int p0), .val (.int p1), .val (.long q2), .second, .val (.long q3), .second, .val (.int v2_0), .val (.int v7_0), .val (.int v12_0), .val (.int v17_0), .val (.int v22_0), .val (.int v27_0), .val (.ref b32)] [(.int r64)])) _
            refine XS.iload X63.here hx rfl (hb hby at_162) rfl ?_
            show Steps p.tables e below (T63.setTop (mkF m 164 #[.val (.int p0), .val (.int p1), .val (.long q2), .second, .val (.long q3), .second, .val (.int v2_0), .val (.int v7_0), .val (.int v12_0), .val (.int v17_0), .val (.int v22_0), .val (.int v27_0), .val (.ref b32)] [(.int v22_0), (.int r64)])) _
            exact Steps.refl _)
          by_cases hc164 : r64 = v22_0
          · have K67 : Steps p.tables e below _ (T63.setTop (mkF m 172 #[.val (.int p0), .val (.int p1), .val (.long q2), .second, .val (.long q3), .second, .val (.int v2_0), .val (.int v7_0), .val (.int v12_0), .val (.int v17_0), .val (.int v22_0), .val (.int v27_0), .val (.ref b32)] [(.int (1 : Int32))])) := K66.trans (by
              show Steps p.tables e below (T63.setTop (mkF m 164 #[.val (.int p0), .val (.int p1), .val (.long q2), .second, .val (.long q3), .second, .val (.int v2_0), .val (.int v7_0), .val (.int v12_0), .val (.int v17_0), .val (.int v22_0), .val (.int v27_0), .val (.ref b32)] [(.int v22_0), (.int r64)])) _
              refine XS.icmpNo X63.here hx rfl (hb hby at_164) rfl (teq hc164).2 ?_
              show Steps p.tables e below (T63.setTop (mkF m 167 #[.val (.int p0), .val (.int p1), .val (.long q2), .second, .val (.long q3), .second, .val (.int v2_0), .val (.int v7_0), .val (.int v12_0), .val (.int v17_0), .val (.int v22_0), .val (.int v27_0), .val (.ref b32)] [])) _
              refine XS.iconst X63.here hx rfl (hb hby at_167) ?_
              show Steps p.tables e below (T63.setTop (mkF m 168 #[.val (.int p0), .val (.int p1), .val (.long q2), .second, .val (.long q3), .second, .val (.int v2_0), .val (.int v7_0), .val (.int v12_0), .val (.int v17_0), .val (.int v22_0), .val (.int v27_0), .val (.ref b32)] [(.int (1 : Int32))])) _
              refine XS.goto X63.here hx rfl (pc0 := 168) (pc' := 172) rfl (hb hby at_168) (by decide) (by decide) ?_
              show Steps p.tables e below (T63.setTop (mkF m 172 #[.val (.int p0), .val (.int p1), .val (.long q2), .second, .val (.long q3), .second, .val (.int v2_0), .val (.int v7_0), .val (.int v12_0), .val (.int v17_0), .val (.int v22_0), .val (.int v27_0), .val (.ref b32)] [(.int (1 : Int32))])) _
              exact Steps.refl _)
            subst hr64
            subst hr59
            exact ⟨T63, _, (1 : Int32), X63, eh63, N63', (by rw [if_pos hc142, if_pos hc153, if_pos hc164]), K67⟩
          · have K68 : Steps p.tables e below _ (T63.setTop (mkF m 172 #[.val (.int p0), .val (.int p1), .val (.long q2), .second, .val (.long q3), .second, .val (.int v2_0), .val (.int v7_0), .val (.int v12_0), .val (.int v17_0), .val (.int v22_0), .val (.int v27_0), .val (.ref b32)] [(.int (0 : Int32))])) := K66.trans (by
              show Steps p.tables e below (T63.setTop (mkF m 164 #[.val (.int p0), .val (.int p1), .val (.long q2), .second, .val (.long q3), .second, .val (.int v2_0), .val (.int v7_0), .val (.int v12_0), .val (.int v17_0), .val (.int v22_0), .val (.int v27_0), .val (.ref b32)] [(.int v22_0), (.int r64)])) _
              refine XS.icmpYes X63.here hx rfl (pc0 := 164) (pc' := 171) rfl (hb hby at_164) rfl (feq hc164).2 (by decide) (by decide) ?_
              show Steps p.tables e below (T63.setTop (mkF m 171 #[.val (.int p0), .val (.int p1), .val (.long q2), .second, .val (.long q3), .second, .val (.int v2_0), .val (.int v7_0), .val (.int v12_0), .val (.int v17_0), .val (.int v22_0), .val (.int v27_0), .val (.ref b32)] [])) _
              refine XS.iconst X63.here hx rfl (hb hby at_171) ?_
              show Steps p.tables e below (T63.setTop (mkF m 172 #[.val (.int p0), .val (.int p1), .val (.long q2), .second, .val (.long q3), .second, .val (.int v2_0), .val (.int v7_0), .val (.int v12_0), .val (.int v17_0), .val (.int v22_0), .val (.int v27_0), .val (.ref b32)] [(.int (0 : Int32))])) _
              exact Steps.refl _)
            subst hr64
            subst hr59
            exact ⟨T63, _, (0 : Int32), X63, eh63, N63', (by rw [if_pos hc142, if_pos hc153, if_neg hc164]), K68⟩
        · have K69 : Steps p.tables e below _ (T58.setTop (mkF m 172 #[.val (.int p0), .val (.int p1), .val (.long q2), .second, .val (.long q3), .second, .val (.int v2_0), .val (.int v7_0), .val (.int v12_0), .val (.int v17_0), .val (.int v22_0), .val (.int v27_0), .val (.ref b32)] [(.int (0 : Int32))])) := K61.trans (by
            show Steps p.tables e below (T58.setTop (mkF m 153 #[.val (.int p0), .val (.int p1), .val (.long q2), .second, .val (.long q3), .second, .val (.int v2_0), .val (.int v7_0), .val (.int v12_0), .val (.int v17_0), .val (.int v22_0), .val (.int v27_0), .val (.ref b32)] [(.int v12_0), (.int r59)])) _
            refine XS.icmpYes X58.here hx rfl (pc0 := 153) (pc' := 171) rfl (hb hby at_153) rfl (feq hc153).2 (by decide) (by decide) ?_
            show Steps p.tables e below (T58.setTop (mkF m 171 #[.val (.int p0), .val (.int p1), .val (.long q2), .second, .val (.long q3), .second, .val (.int v2_0), .val (.int v7_0), .val (.int v12_0), .val (.int v17_0), .val (.int v22_0), .val (.int v27_0), .val (.ref b32)] [])) _
            refine XS.iconst X58.here hx rfl (hb hby at_171) ?_
            show Steps p.tables e below (T58.setTop (mkF m 172 #[.val (.int p0), .val (.int p1), .val (.long q2), .second, .val (.long q3), .second, .val (.int v2_0), .val (.int v7_0), .val (.int v12_0), .val (.int v17_0), .val (.int v22_0), .val (.int v27_0), .val (.ref b32)] [(.int (0 : Int32))])) _
            exact Steps.refl _)
          subst hr59
          exact ⟨T58, _, (0 : Int32), X58, eh58, N58', (by rw [if_pos hc142, if_neg hc153]), K69⟩
      · have K70 : Steps p.tables e below _ (T52.setTop (mkF m 172 #[.val (.int p0), .val (.int p1), .val (.long q2), .second, .val (.long q3), .second, .val (.int v2_0), .val (.int v7_0), .val (.int v12_0), .val (.int v17_0), .val (.int v22_0), .val (.int v27_0), .val (.ref b32)] [(.int (0 : Int32))])) := R56.trans (by
          show Steps p.tables e below (T52.setTop (mkF m 142 #[.val (.int p0), .val (.int p1), .val (.long q2), .second, .val (.long q3), .second, .val (.int v2_0), .val (.int v7_0), .val (.int v12_0), .val (.int v17_0), .val (.int v22_0), .val (.int v27_0), .val (.ref b32)] [(.int v2_0), (.int r53)])) _
          refine XS.icmpYes X52.here hx rfl (pc0 := 142) (pc' := 171) rfl (hb hby at_142) rfl (feq hc142).2 (by decide) (by decide) ?_
          show Steps p.tables e below (T52.setTop (mkF m 171 #[.val (.int p0), .val (.int p1), .val (.long q2), .second, .val (.long q3), .second, .val (.int v2_0), .val (.int v7_0), .val (.int v12_0), .val (.int v17_0), .val (.int v22_0), .val (.int v27_0), .val (.ref b32)] [])) _
          refine XS.iconst X52.here hx rfl (hb hby at_171) ?_
          show Steps p.tables e below (T52.setTop (mkF m 172 #[.val (.int p0), .val (.int p1), .val (.long q2), .second, .val (.long q3), .second, .val (.int v2_0), .val (.int v7_0), .val (.int v12_0), .val (.int v17_0), .val (.int v22_0), .val (.int v27_0), .val (.ref b32)] [(.int (0 : Int32))])) _
          exact Steps.refl _)
        exact ⟨T52, _, (0 : Int32), X52, eh52, N52', (by rw [if_neg hc142]), K70⟩
    have K71 := K55.trans S56
    have hone : (v56_0 &&& 1) = (1 : Int32) := own_law_0 p0 p1 q2 q3 v2_0 v7_0 v12_0 v17_0 v22_0 v27_0 r53 v56_0 hv2_0 hv7_0 hv12_0 hv17_0 hv22_0 hv27_0 hr53 hv56_0
    obtain ⟨fs, hr, hrun, hended, hW, hsame⟩ := X56.leave (v := some (.int (v56_0 &&& 1))) (fun h => by rw [Bd.returns] at h; cases h)
    exact ⟨_, _, K71.trans (retN X56 hx (t := .boolean) Bd.returns (by simp) (hb hby at_172) hr), hrun, hended, _, _, rfl, ⟨by rw [hone], N56⟩, ⟨_, rfl⟩, hW, hsame.mono (by decide) (by decide)⟩
  · rw [hcap] at K34
    have Z_72 : n0 ≤ h32.size := (Nat.le_trans Z0 E32.1)
    obtain ⟨_, _, ⟨T73, L73, k73, n73⟩, -, X73, ⟨Lc73, hQ73, l73, y73, z73⟩, st73⟩ := X32.specialBack hx (y := (⟨"com/example/spanfold/spanfold/RangeList", "<init>", "(I)V"⟩ : MethodName)) rfl hown (mvT hZ (hw _ (List.mem_of_getElem? (i := 3) rfl))) (mvT hZ (hw _ (List.mem_of_getElem? (i := 4) rfl))) (mvT hZ (hw _ (List.mem_of_getElem? (i := 5) rfl))) (by decide) (backOf (W := 1) (rm1 l Z a0 hw [] b32 (1 : Int32) (0 : Int32) .null .null .null h32 n0 Z_72 A32 F32_size ge_b32 (by decide) F32_froms F32_tos F32_ends) hZ (hw _ (List.mem_of_getElem? (i := 5) rfl)) (hw _ (List.mem_of_getElem? (i := 2) rfl)) (by decide) (by decide)) (g := (mkF m 88 #[.val (.int p0), .val (.int p1), .val (.long q2), .second, .val (.long q3), .second, .val (.int v2_0), .val (.int v7_0), .val (.int v12_0), .val (.int v17_0), .val (.int v22_0), .val (.int v27_0), .unset] [(.int (1 : Int32)), (.ref b32), (.ref b32)])) rfl (by rw [hml]; rfl) K34 (a := b32) (argsL := [(.int (1 : Int32))]) (rest := [(.ref b32)]) (lenOf pd_4 rfl) rfl (by show 2 * 0 + _ ≤ _; exact Nat.le_of_eq rfl) (hb hby at_88) (fun _ _ => ⟨rfl, e32, (by decide : 1 + 3 ≤ _), (by decide : 4 + 9 ≤ _)⟩)
    dsimp only [Pt.U, Pt.locs, Pt.cells, Pt.slots] at X73 l73 y73 z73 st73 hQ73
    subst l73 y73 z73
    obtain ⟨b73_b5, b73_b12, b73_b23, k5_73, k12_73, k23_73, rfl, N73, Kp73, Q73_0, Q73_1, Q73_2, Q73_3, Q73_4, Q73_5, Q73_6, Q73_7, Q73_8, Q73_9, Q73_10, sz73_b5, sz73_b12, sz73_b23, ne73_14, ne73_15, ne73_16⟩ := hQ73
    have ne_b32_b73_b5 : b32 ≠ b73_b5 := Nat.ne_of_lt (Nat.lt_of_lt_of_le A32.lt sz73_b5)
    have ge_b73_b5 : n0 ≤ b73_b5 := Nat.le_trans Z_72 sz73_b5
    have ne_b32_b73_b12 : b32 ≠ b73_b12 := Nat.ne_of_lt (Nat.lt_of_lt_of_le A32.lt sz73_b12)
    have ge_b73_b12 : n0 ≤ b73_b12 := Nat.le_trans Z_72 sz73_b12
    have ne_b32_b73_b23 : b32 ≠ b73_b23 := Nat.ne_of_lt (Nat.lt_of_lt_of_le A32.lt sz73_b23)
    have ge_b73_b23 : n0 ≤ b73_b23 := Nat.le_trans Z_72 sz73_b23
    have N73' := Fr.app N0 N73
    have K74 : Steps p.tables e below _ (T73.setTop (mkF m 91 #[.val (.int p0), .val (.int p1), .val (.long q2), .second, .val (.long q3), .second, .val (.int v2_0), .val (.int v7_0), .val (.int v12_0), .val (.int v17_0), .val (.int v22_0), .val (.int v27_0), .unset] [(.ref b32)])) := st73
    have K75 : Steps p.tables e below _ (T73.setTop (mkF m 102 #[.val (.int p0), .val (.int p1), .val (.long q2), .second, .val (.long q3), .second, .val (.int v2_0), .val (.int v7_0), .val (.int v12_0), .val (.int v17_0), .val (.int v22_0), .val (.int v27_0), .val (.ref b32)] [(.long q3), (.int v7_0), (.long q2), (.int v2_0), (.ref b32)])) := K74.trans (by
      show Steps p.tables e below (T73.setTop (mkF m 91 #[.val (.int p0), .val (.int p1), .val (.long q2), .second, .val (.long q3), .second, .val (.int v2_0), .val (.int v7_0), .val (.int v12_0), .val (.int v17_0), .val (.int v22_0), .val (.int v27_0), .unset] [(.ref b32)])) _
      refine XS.astore X73.here hx rfl (hb hby at_91) rfl rfl (l' := #[.val (.int p0), .val (.int p1), .val (.long q2), .second, .val (.long q3), .second, .val (.int v2_0), .val (.int v7_0), .val (.int v12_0), .val (.int v17_0), .val (.int v22_0), .val (.int v27_0), .val (.ref b32)]) rfl ?_
      show Steps p.tables e below (T73.setTop (mkF m 93 #[.val (.int p0), .val (.int p1), .val (.long q2), .second, .val (.long q3), .second, .val (.int v2_0), .val (.int v7_0), .val (.int v12_0), .val (.int v17_0), .val (.int v22_0), .val (.int v27_0), .val (.ref b32)] [])) _
      refine XS.aload X73.here hx rfl (hb hby at_93) rfl rfl ?_
      show Steps p.tables e below (T73.setTop (mkF m 95 #[.val (.int p0), .val (.int p1), .val (.long q2), .second, .val (.long q3), .second, .val (.int v2_0), .val (.int v7_0), .val (.int v12_0), .val (.int v17_0), .val (.int v22_0), .val (.int v27_0), .val (.ref b32)] [(.ref b32)])) _
      refine XS.iload X73.here hx rfl (hb hby at_95) rfl ?_
      show Steps p.tables e below (T73.setTop (mkF m 97 #[.val (.int p0), .val (.int p1), .val (.long q2), .second, .val (.long q3), .second, .val (.int v2_0), .val (.int v7_0), .val (.int v12_0), .val (.int v17_0), .val (.int v22_0), .val (.int v27_0), .val (.ref b32)] [(.int v2_0), (.ref b32)])) _
      refine XS.lloadN X73.here hx rfl (hb hby at_97) rfl ?_
      show Steps p.tables e below (T73.setTop (mkF m 98 #[.val (.int p0), .val (.int p1), .val (.long q2), .second, .val (.long q3), .second, .val (.int v2_0), .val (.int v7_0), .val (.int v12_0), .val (.int v17_0), .val (.int v22_0), .val (.int v27_0), .val (.ref b32)] [(.long q2), (.int v2_0), (.ref b32)])) _
      refine XS.iload X73.here hx rfl (hb hby at_98) rfl ?_
      show Steps p.tables e below (T73.setTop (mkF m 100 #[.val (.int p0), .val (.int p1), .val (.long q2), .second, .val (.long q3), .second, .val (.int v2_0), .val (.int v7_0), .val (.int v12_0), .val (.int v17_0), .val (.int v22_0), .val (.int v27_0), .val (.ref b32)] [(.int v7_0), (.long q2), (.int v2_0), (.ref b32)])) _
      refine XS.lload X73.here hx rfl (hb hby at_100) rfl ?_
      show Steps p.tables e below (T73.setTop (mkF m 102 #[.val (.int p0), .val (.int p1), .val (.long q2), .second, .val (.long q3), .second, .val (.int v2_0), .val (.int v7_0), .val (.int v12_0), .val (.int v17_0), .val (.int v22_0), .val (.int v27_0), .val (.ref b32)] [(.long q3), (.int v7_0), (.long q2), (.int v2_0), (.ref b32)])) _
      exact Steps.refl _)
    have Z_76 : n0 ≤ T73.heap.size := (Nat.le_trans Z_72 Kp73.1)
    obtain ⟨cq77, kq77, q77a, q77b, q77c⟩ := isOf hZ rfl Q73_0
    obtain ⟨_, _, ⟨T77, L77, k77, n77⟩, -, X77, ⟨Lc77, hQ77, l77, y77, z77⟩, st77⟩ := X73.virtualBack hx (y := (⟨"com/example/spanfold/spanfold/RangeList", "add", "(ZJZJ)V"⟩ : MethodName)) (z := (⟨"com/example/spanfold/spanfold/RangeList", "add", "(ZJZJ)V"⟩ : MethodName)) hown (mvT hZ (hw _ (List.mem_of_getElem? (i := 17) rfl))) (mvT hZ (hw _ (List.mem_of_getElem? (i := 18) rfl))) (notFace_of_selects (args := #[]) (mvT hZ (hw _ (List.mem_of_getElem? (i := 20) rfl)))) (mvT hZ (hw _ (List.mem_of_getElem? (i := 20) rfl))) (mvT hZ (hw _ (List.mem_of_getElem? (i := 19) rfl))) (by decide) (backOf (W := 0) (rm3n l Z a0 hw [] b32 v2_0 q2 v7_0 q3 b73_b5 b73_b12 b73_b23 k5_73 k12_73 k23_73 (1 : Int32) (List.replicate 3 (.long (0 : Int64))) (List.replicate 3 (.long (0 : Int64))) (List.replicate 3 (.int (0 : Int32))) (0 : Int32) 0 T73.heap n0 Z_76 Q73_0 Q73_4 Q73_7 Q73_10 Q73_1 Q73_2 Q73_5 Q73_8 ne_b32_b73_b5 ne_b32_b73_b12 ne_b32_b73_b23 ne73_14 ne73_15 ne73_16 ge_b32 ge_b73_b5 ge_b73_b12 ge_b73_b23 (by decide) (by decide) (rfl) (Nat.le_of_ble_eq_true rfl) (Nat.le_of_ble_eq_true rfl) (Nat.le_of_ble_eq_true rfl)) hZ (hw _ (List.mem_of_getElem? (i := 21) rfl)) (hw _ (List.mem_of_getElem? (i := 2) rfl)) (by decide) (by decide)) q77a q77c (g := (mkF m 102 #[.val (.int p0), .val (.int p1), .val (.long q2), .second, .val (.long q3), .second, .val (.int v2_0), .val (.int v7_0), .val (.int v12_0), .val (.int v17_0), .val (.int v22_0), .val (.int v27_0), .val (.ref b32)] [(.long q3), (.int v7_0), (.long q2), (.int v2_0), (.ref b32)])) rfl (by rw [hml]; rfl) K75 (argsL := [(.int v2_0), (.long q2), (.int v7_0), (.long q3)]) (rest := []) (lenOf pd_5 rfl) rfl (by show 2 * 0 + _ ≤ _; exact Nat.le_of_eq rfl) (hb hby at_102) (fun _ _ => ⟨rfl, rfl, (by decide : 4 + 0 ≤ _), (by decide : 13 + 0 ≤ _)⟩)
    dsimp only [Pt.U, Pt.locs, Pt.cells, Pt.slots] at X77 l77 y77 z77 st77 hQ77
    subst l77 y77 z77
    obtain ⟨rfl, N77, Kp77, Q77_0, Q77_1, Q77_2, Q77_3, Q77_4, Q77_5, Q77_6, Q77_7⟩ := hQ77
    have Q77_4f : Fld Z T77.heap b32 "com/example/spanfold/spanfold/RangeList" "size" "I" (.int (1 : Int32)) := Q77_4
    have N77' := Fr.app N73' N77
    have K78 : Steps p.tables e below _ (T77.setTop (mkF m 105 #[.val (.int p0), .val (.int p1), .val (.long q2), .second, .val (.long q3), .second, .val (.int v2_0), .val (.int v7_0), .val (.int v12_0), .val (.int v17_0), .val (.int v22_0), .val (.int v27_0), .val (.ref b32)] [])) := st77
    have K79 : Steps p.tables e below _ (T77.setTop (mkF m 114 #[.val (.int p0), .val (.int p1), .val (.long q2), .second, .val (.long q3), .second, .val (.int v2_0), .val (.int v7_0), .val (.int v12_0), .val (.int v17_0), .val (.int v22_0), .val (.int v27_0), .val (.ref b32)] [(.long q2), (.int v17_0), (.long q3), (.int v12_0), (.ref b32)])) := K78.trans (by
      show Steps p.tables e below (T77.setTop (mkF m 105 #[.val (.int p0), .val (.int p1), .val (.long q2), .second, .val (.long q3), .second, .val (.int v2_0), .val (.int v7_0), .val (.int v12_0), .val (.int v17_0), .val (.int v22_0), .val (.int v27_0), .val (.ref b32)] [])) _
      refine XS.aload X77.here hx rfl (hb hby at_105) rfl rfl ?_
      show Steps p.tables e below (T77.setTop (mkF m 107 #[.val (.int p0), .val (.int p1), .val (.long q2), .second, .val (.long q3), .second, .val (.int v2_0), .val (.int v7_0), .val (.int v12_0), .val (.int v17_0), .val (.int v22_0), .val (.int v27_0), .val (.ref b32)] [(.ref b32)])) _
      refine XS.iload X77.here hx rfl (hb hby at_107) rfl ?_
      show Steps p.tables e below (T77.setTop (mkF m 109 #[.val (.int p0), .val (.int p1), .val (.long q2), .second, .val (.long q3), .second, .val (.int v2_0), .val (.int v7_0), .val (.int v12_0), .val (.int v17_0), .val (.int v22_0), .val (.int v27_0), .val (.ref b32)] [(.int v12_0), (.ref b32)])) _
      refine XS.lload X77.here hx rfl (hb hby at_109) rfl ?_
      show Steps p.tables e below (T77.setTop (mkF m 111 #[.val (.int p0), .val (.int p1), .val (.long q2), .second, .val (.long q3), .second, .val (.int v2_0), .val (.int v7_0), .val (.int v12_0), .val (.int v17_0), .val (.int v22_0), .val (.int v27_0), .val (.ref b32)] [(.long q3), (.int v12_0), (.ref b32)])) _
      refine XS.iload X77.here hx rfl (hb hby at_111) rfl ?_
      show Steps p.tables e below (T77.setTop (mkF m 113 #[.val (.int p0), .val (.int p1), .val (.long q2), .second, .val (.long q3), .second, .val (.int v2_0), .val (.int v7_0), .val (.int v12_0), .val (.int v17_0), .val (.int v22_0), .val (.int v27_0), .val (.ref b32)] [(.int v17_0), (.long q3), (.int v12_0), (.ref b32)])) _
      refine XS.lloadN X77.here hx rfl (hb hby at_113) rfl ?_
      show Steps p.tables e below (T77.setTop (mkF m 114 #[.val (.int p0), .val (.int p1), .val (.long q2), .second, .val (.long q3), .second, .val (.int v2_0), .val (.int v7_0), .val (.int v12_0), .val (.int v17_0), .val (.int v22_0), .val (.int v27_0), .val (.ref b32)] [(.long q2), (.int v17_0), (.long q3), (.int v12_0), (.ref b32)])) _
      exact Steps.refl _)
    have Z_80 : n0 ≤ T77.heap.size := (Nat.le_trans Z_76 Kp77.1)
    obtain ⟨cq81, kq81, q81a, q81b, q81c⟩ := isOf hZ rfl Q77_0
    obtain ⟨_, _, ⟨T81, L81, k81, n81⟩, -, X81, ⟨Lc81, hQ81, l81, y81, z81⟩, st81⟩ := X77.virtualBack hx (y := (⟨"com/example/spanfold/spanfold/RangeList", "add", "(ZJZJ)V"⟩ : MethodName)) (z := (⟨"com/example/spanfold/spanfold/RangeList", "add", "(ZJZJ)V"⟩ : MethodName)) hown (mvT hZ (hw _ (List.mem_of_getElem? (i := 17) rfl))) (mvT hZ (hw _ (List.mem_of_getElem? (i := 18) rfl))) (notFace_of_selects (args := #[]) (mvT hZ (hw _ (List.mem_of_getElem? (i := 20) rfl)))) (mvT hZ (hw _ (List.mem_of_getElem? (i := 20) rfl))) (mvT hZ (hw _ (List.mem_of_getElem? (i := 19) rfl))) (by decide) (backOf (W := 0) (rm3g l Z a0 hw [] b32 v12_0 q3 v17_0 q2 b73_b5 b73_b12 b73_b23 k5_73 k12_73 k23_73 (1 : Int32) ((List.replicate 3 (.long (0 : Int64))).set 0 (.long (if v2_0 = (0 : Int32) then (0 : Int64) else q2))) ((List.replicate 3 (.long (0 : Int64))).set 0 (.long (if v7_0 = (0 : Int32) then (0 : Int64) else q3))) ((List.replicate 3 (.int (0 : Int32))).set 0 (.int ((((if v2_0 = (0 : Int32) then (0 : Int32) else (1 : Int32)) ||| (if v7_0 = (0 : Int32) then (0 : Int32) else (2 : Int32))).toInt8.toInt32).toInt8.toInt32))) (1 : Int32) 1 T77.heap n0 Z_80 Q77_0 Q77_1 Q77_2 Q77_3 Q77_4f Q77_5 Q77_6 Q77_7 ne_b32_b73_b5 ne_b32_b73_b12 ne_b32_b73_b23 ne73_14 ne73_15 ne73_16 ge_b32 (rfl) (by decide) (by decide) (by decide) (by decide) (rfl) (by decide) (by decide)) hZ (hw _ (List.mem_of_getElem? (i := 21) rfl)) (hw _ (List.mem_of_getElem? (i := 2) rfl)) (by decide) (by decide)) q81a q81c (g := (mkF m 114 #[.val (.int p0), .val (.int p1), .val (.long q2), .second, .val (.long q3), .second, .val (.int v2_0), .val (.int v7_0), .val (.int v12_0), .val (.int v17_0), .val (.int v22_0), .val (.int v27_0), .val (.ref b32)] [(.long q2), (.int v17_0), (.long q3), (.int v12_0), (.ref b32)])) rfl (by rw [hml]; rfl) K79 (argsL := [(.int v12_0), (.long q3), (.int v17_0), (.long q2)]) (rest := []) (lenOf pd_5 rfl) rfl (by show 2 * 0 + _ ≤ _; exact Nat.le_of_eq rfl) (hb hby at_114) (fun _ _ => ⟨rfl, rfl, (by decide : 4 + 3 ≤ _), (by decide : 13 + 24 ≤ _)⟩)
    dsimp only [Pt.U, Pt.locs, Pt.cells, Pt.slots] at X81 l81 y81 z81 st81 hQ81
    subst l81 y81 z81
    obtain ⟨b81_b19_b4, b81_b32_b4, b81_b50_b4, k4_19_81, k4_32_81, k4_50_81, rfl, N81, Kp81, Q81_0, Q81_1, Q81_2, Q81_3, Q81_4, Q81_5, Q81_6, Q81_7, Q81_8, Q81_9, Q81_10, sz81_b19_b4, sz81_b32_b4, sz81_b50_b4, ne81_14, ne81_15, ne81_16⟩ := hQ81
    have ne_b32_b81_b19_b4 : b32 ≠ b81_b19_b4 := Nat.ne_of_lt (Nat.lt_of_lt_of_le Q77_0.lt sz81_b19_b4)
    have E_82 : Exa Z T77.heap b73_b5 "[J" := (Q73_3.keep Kp77)
    have ne_b73_b5_b81_b19_b4 : b73_b5 ≠ b81_b19_b4 := Nat.ne_of_lt (Nat.lt_of_lt_of_le E_82.lt sz81_b19_b4)
    have E_83 : Exa Z T77.heap b73_b12 "[J" := (Q73_6.keep Kp77)
    have ne_b73_b12_b81_b19_b4 : b73_b12 ≠ b81_b19_b4 := Nat.ne_of_lt (Nat.lt_of_lt_of_le E_83.lt sz81_b19_b4)
    have E_84 : Exa Z T77.heap b73_b23 "[B" := (Q73_9.keep Kp77)
    have ne_b73_b23_b81_b19_b4 : b73_b23 ≠ b81_b19_b4 := Nat.ne_of_lt (Nat.lt_of_lt_of_le E_84.lt sz81_b19_b4)
    have ge_b81_b19_b4 : n0 ≤ b81_b19_b4 := Nat.le_trans Z_80 sz81_b19_b4
    have ne_b32_b81_b32_b4 : b32 ≠ b81_b32_b4 := Nat.ne_of_lt (Nat.lt_of_lt_of_le Q77_0.lt sz81_b32_b4)
    have ne_b73_b5_b81_b32_b4 : b73_b5 ≠ b81_b32_b4 := Nat.ne_of_lt (Nat.lt_of_lt_of_le E_82.lt sz81_b32_b4)
    have ne_b73_b12_b81_b32_b4 : b73_b12 ≠ b81_b32_b4 := Nat.ne_of_lt (Nat.lt_of_lt_of_le E_83.lt sz81_b32_b4)
    have ne_b73_b23_b81_b32_b4 : b73_b23 ≠ b81_b32_b4 := Nat.ne_of_lt (Nat.lt_of_lt_of_le E_84.lt sz81_b32_b4)
    have ge_b81_b32_b4 : n0 ≤ b81_b32_b4 := Nat.le_trans Z_80 sz81_b32_b4
    have ne_b32_b81_b50_b4 : b32 ≠ b81_b50_b4 := Nat.ne_of_lt (Nat.lt_of_lt_of_le Q77_0.lt sz81_b50_b4)
    have ne_b73_b5_b81_b50_b4 : b73_b5 ≠ b81_b50_b4 := Nat.ne_of_lt (Nat.lt_of_lt_of_le E_82.lt sz81_b50_b4)
    have ne_b73_b12_b81_b50_b4 : b73_b12 ≠ b81_b50_b4 := Nat.ne_of_lt (Nat.lt_of_lt_of_le E_83.lt sz81_b50_b4)
    have ne_b73_b23_b81_b50_b4 : b73_b23 ≠ b81_b50_b4 := Nat.ne_of_lt (Nat.lt_of_lt_of_le E_84.lt sz81_b50_b4)
    have ge_b81_b50_b4 : n0 ≤ b81_b50_b4 := Nat.le_trans Z_80 sz81_b50_b4
    have Q81_4f : Fld Z T81.heap b32 "com/example/spanfold/spanfold/RangeList" "size" "I" (.int (2 : Int32)) := Q81_4
    have N81' := Fr.app N77' N81
    have K85 : Steps p.tables e below _ (T81.setTop (mkF m 117 #[.val (.int p0), .val (.int p1), .val (.long q2), .second, .val (.long q3), .second, .val (.int v2_0), .val (.int v7_0), .val (.int v12_0), .val (.int v17_0), .val (.int v22_0), .val (.int v27_0), .val (.ref b32)] [])) := st81
    have K86 : Steps p.tables e below _ (T81.setTop (mkF m 131 #[.val (.int p0), .val (.int p1), .val (.long q2), .second, .val (.long q3), .second, .val (.int v2_0), .val (.int v7_0), .val (.int v12_0), .val (.int v17_0), .val (.int v22_0), .val (.int v27_0), .val (.ref b32)] [(.long (q2 + q3)), (.int v27_0), (.long (q2 ^^^ q3)), (.int v22_0), (.ref b32)])) := K85.trans (by
      show Steps p.tables e below (T81.setTop (mkF m 117 #[.val (.int p0), .val (.int p1), .val (.long q2), .second, .val (.long q3), .second, .val (.int v2_0), .val (.int v7_0), .val (.int v12_0), .val (.int v17_0), .val (.int v22_0), .val (.int v27_0), .val (.ref b32)] [])) _
      refine XS.aload X81.here hx rfl (hb hby at_117) rfl rfl ?_
      show Steps p.tables e below (T81.setTop (mkF m 119 #[.val (.int p0), .val (.int p1), .val (.long q2), .second, .val (.long q3), .second, .val (.int v2_0), .val (.int v7_0), .val (.int v12_0), .val (.int v17_0), .val (.int v22_0), .val (.int v27_0), .val (.ref b32)] [(.ref b32)])) _
      refine XS.iload X81.here hx rfl (hb hby at_119) rfl ?_
      show Steps p.tables e below (T81.setTop (mkF m 121 #[.val (.int p0), .val (.int p1), .val (.long q2), .second, .val (.long q3), .second, .val (.int v2_0), .val (.int v7_0), .val (.int v12_0), .val (.int v17_0), .val (.int v22_0), .val (.int v27_0), .val (.ref b32)] [(.int v22_0), (.ref b32)])) _
      refine XS.lloadN X81.here hx rfl (hb hby at_121) rfl ?_
      show Steps p.tables e below (T81.setTop (mkF m 122 #[.val (.int p0), .val (.int p1), .val (.long q2), .second, .val (.long q3), .second, .val (.int v2_0), .val (.int v7_0), .val (.int v12_0), .val (.int v17_0), .val (.int v22_0), .val (.int v27_0), .val (.ref b32)] [(.long q2), (.int v22_0), (.ref b32)])) _
      refine XS.lload X81.here hx rfl (hb hby at_122) rfl ?_
      show Steps p.tables e below (T81.setTop (mkF m 124 #[.val (.int p0), .val (.int p1), .val (.long q2), .second, .val (.long q3), .second, .val (.int v2_0), .val (.int v7_0), .val (.int v12_0), .val (.int v17_0), .val (.int v22_0), .val (.int v27_0), .val (.ref b32)] [(.long q3), (.long q2), (.int v22_0), (.ref b32)])) _
      refine XS.lxor X81.here hx rfl (hb hby at_124) rfl ?_
      show Steps p.tables e below (T81.setTop (mkF m 125 #[.val (.int p0), .val (.int p1), .val (.long q2), .second, .val (.long q3), .second, .val (.int v2_0), .val (.int v7_0), .val (.int v12_0), .val (.int v17_0), .val (.int v22_0), .val (.int v27_0), .val (.ref b32)] [(.long (q2 ^^^ q3)), (.int v22_0), (.ref b32)])) _
      refine XS.iload X81.here hx rfl (hb hby at_125) rfl ?_
      show Steps p.tables e below (T81.setTop (mkF m 127 #[.val (.int p0), .val (.int p1), .val (.long q2), .second, .val (.long q3), .second, .val (.int v2_0), .val (.int v7_0), .val (.int v12_0), .val (.int v17_0), .val (.int v22_0), .val (.int v27_0), .val (.ref b32)] [(.int v27_0), (.long (q2 ^^^ q3)), (.int v22_0), (.ref b32)])) _
      refine XS.lloadN X81.here hx rfl (hb hby at_127) rfl ?_
      show Steps p.tables e below (T81.setTop (mkF m 128 #[.val (.int p0), .val (.int p1), .val (.long q2), .second, .val (.long q3), .second, .val (.int v2_0), .val (.int v7_0), .val (.int v12_0), .val (.int v17_0), .val (.int v22_0), .val (.int v27_0), .val (.ref b32)] [(.long q2), (.int v27_0), (.long (q2 ^^^ q3)), (.int v22_0), (.ref b32)])) _
      refine XS.lload X81.here hx rfl (hb hby at_128) rfl ?_
      show Steps p.tables e below (T81.setTop (mkF m 130 #[.val (.int p0), .val (.int p1), .val (.long q2), .second, .val (.long q3), .second, .val (.int v2_0), .val (.int v7_0), .val (.int v12_0), .val (.int v17_0), .val (.int v22_0), .val (.int v27_0), .val (.ref b32)] [(.long q3), (.long q2), (.int v27_0), (.long (q2 ^^^ q3)), (.int v22_0), (.ref b32)])) _
      refine XS.ladd X81.here hx rfl (hb hby at_130) rfl ?_
      show Steps p.tables e below (T81.setTop (mkF m 131 #[.val (.int p0), .val (.int p1), .val (.long q2), .second, .val (.long q3), .second, .val (.int v2_0), .val (.int v7_0), .val (.int v12_0), .val (.int v17_0), .val (.int v22_0), .val (.int v27_0), .val (.ref b32)] [(.long (q2 + q3)), (.int v27_0), (.long (q2 ^^^ q3)), (.int v22_0), (.ref b32)])) _
      exact Steps.refl _)
    have Z_87 : n0 ≤ T81.heap.size := (Nat.le_trans Z_80 Kp81.1)
    obtain ⟨cq88, kq88, q88a, q88b, q88c⟩ := isOf hZ rfl Q81_0
    obtain ⟨_, _, ⟨T88, L88, k88, n88⟩, -, X88, ⟨Lc88, hQ88, l88, y88, z88⟩, st88⟩ := X81.virtualBack hx (y := (⟨"com/example/spanfold/spanfold/RangeList", "add", "(ZJZJ)V"⟩ : MethodName)) (z := (⟨"com/example/spanfold/spanfold/RangeList", "add", "(ZJZJ)V"⟩ : MethodName)) hown (mvT hZ (hw _ (List.mem_of_getElem? (i := 17) rfl))) (mvT hZ (hw _ (List.mem_of_getElem? (i := 18) rfl))) (notFace_of_selects (args := #[]) (mvT hZ (hw _ (List.mem_of_getElem? (i := 20) rfl)))) (mvT hZ (hw _ (List.mem_of_getElem? (i := 20) rfl))) (mvT hZ (hw _ (List.mem_of_getElem? (i := 19) rfl))) (by decide) (backOf (W := 0) (rm3n l Z a0 hw [] b32 v22_0 (q2 ^^^ q3) v27_0 (q2 + q3) b81_b19_b4 b81_b32_b4 b81_b50_b4 k4_19_81 k4_32_81 k4_50_81 (8 : Int32) ((own_cp 8 (1 : Int32).toNatClampNeg ((List.replicate 3 (.long (0 : Int64))).set 0 (.long (if v2_0 = (0 : Int32) then (0 : Int64) else q2))) (.long (0 : Int64))).set 1 (.long (if v12_0 = (0 : Int32) then (0 : Int64) else q3))) ((own_cp 8 (1 : Int32).toNatClampNeg ((List.replicate 3 (.long (0 : Int64))).set 0 (.long (if v7_0 = (0 : Int32) then (0 : Int64) else q3))) (.long (0 : Int64))).set 1 (.long (if v17_0 = (0 : Int32) then (0 : Int64) else q2))) ((own_cp 8 (1 : Int32).toNatClampNeg ((List.replicate 3 (.int (0 : Int32))).set 0 (.int ((((if v2_0 = (0 : Int32) then (0 : Int32) else (1 : Int32)) ||| (if v7_0 = (0 : Int32) then (0 : Int32) else (2 : Int32))).toInt8.toInt32).toInt8.toInt32))) (.int (0 : Int32))).set 1 (.int ((((if v12_0 = (0 : Int32) then (0 : Int32) else (1 : Int32)) ||| (if v17_0 = (0 : Int32) then (0 : Int32) else (2 : Int32))).toInt8.toInt32).toInt8.toInt32))) (2 : Int32) 2 T81.heap n0 Z_87 Q81_0 Q81_1 Q81_2 Q81_3 Q81_4f Q81_6 Q81_8 Q81_10 ne_b32_b81_b19_b4 ne_b32_b81_b32_b4 ne_b32_b81_b50_b4 ne81_14 ne81_15 ne81_16 ge_b32 ge_b81_b19_b4 ge_b81_b32_b4 ge_b81_b50_b4 (by decide) (by decide) (rfl) (Nat.le_of_ble_eq_true rfl) (Nat.le_of_ble_eq_true rfl) (Nat.le_of_ble_eq_true rfl)) hZ (hw _ (List.mem_of_getElem? (i := 21) rfl)) (hw _ (List.mem_of_getElem? (i := 2) rfl)) (by decide) (by decide)) q88a q88c (g := (mkF m 131 #[.val (.int p0), .val (.int p1), .val (.long q2), .second, .val (.long q3), .second, .val (.int v2_0), .val (.int v7_0), .val (.int v12_0), .val (.int v17_0), .val (.int v22_0), .val (.int v27_0), .val (.ref b32)] [(.long (q2 + q3)), (.int v27_0), (.long (q2 ^^^ q3)), (.int v22_0), (.ref b32)])) rfl (by rw [hml]; rfl) K86 (argsL := [(.int v22_0), (.long (q2 ^^^ q3)), (.int v27_0), (.long (q2 + q3))]) (rest := []) (lenOf pd_5 rfl) rfl (by show 2 * 0 + _ ≤ _; exact Nat.le_of_eq rfl) (hb hby at_131) (fun _ _ => ⟨rfl, rfl, (by decide : 7 + 0 ≤ _), (by decide : 37 + 0 ≤ _)⟩)
    dsimp only [Pt.U, Pt.locs, Pt.cells, Pt.slots] at X88 l88 y88 z88 st88 hQ88
    subst l88 y88 z88
    obtain ⟨rfl, N88, Kp88, Q88_0, Q88_1, Q88_2, Q88_3, Q88_4, Q88_5, Q88_6, Q88_7⟩ := hQ88
    have Q88_4f : Fld Z T88.heap b32 "com/example/spanfold/spanfold/RangeList" "size" "I" (.int (3 : Int32)) := Q88_4
    have N88' := Fr.app N81' N88
    have K89 : Steps p.tables e below _ (T88.setTop (mkF m 134 #[.val (.int p0), .val (.int p1), .val (.long q2), .second, .val (.long q3), .second, .val (.int v2_0), .val (.int v7_0), .val (.int v12_0), .val (.int v17_0), .val (.int v22_0), .val (.int v27_0), .val (.ref b32)] [])) := st88
    have K90 : Steps p.tables e below _ (T88.setTop (mkF m 137 #[.val (.int p0), .val (.int p1), .val (.long q2), .second, .val (.long q3), .second, .val (.int v2_0), .val (.int v7_0), .val (.int v12_0), .val (.int v17_0), .val (.int v22_0), .val (.int v27_0), .val (.ref b32)] [(.int (0 : Int32)), (.ref b32)])) := K89.trans (by
      show Steps p.tables e below (T88.setTop (mkF m 134 #[.val (.int p0), .val (.int p1), .val (.long q2), .second, .val (.long q3), .second, .val (.int v2_0), .val (.int v7_0), .val (.int v12_0), .val (.int v17_0), .val (.int v22_0), .val (.int v27_0), .val (.ref b32)] [])) _
      refine XS.aload X88.here hx rfl (hb hby at_134) rfl rfl ?_
      show Steps p.tables e below (T88.setTop (mkF m 136 #[.val (.int p0), .val (.int p1), .val (.long q2), .second, .val (.long q3), .second, .val (.int v2_0), .val (.int v7_0), .val (.int v12_0), .val (.int v17_0), .val (.int v22_0), .val (.int v27_0), .val (.ref b32)] [(.ref b32)])) _
      refine XS.iconst X88.here hx rfl (hb hby at_136) ?_
      show Steps p.tables e below (T88.setTop (mkF m 137 #[.val (.int p0), .val (.int p1), .val (.long q2), .second, .val (.long q3), .second, .val (.int v2_0), .val (.int v7_0), .val (.int v12_0), .val (.int v17_0), .val (.int v22_0), .val (.int v27_0), .val (.ref b32)] [(.int (0 : Int32)), (.ref b32)])) _
      exact Steps.refl _)
    have Z_91 : n0 ≤ T88.heap.size := (Nat.le_trans Z_87 Kp88.1)
    obtain ⟨cq92, kq92, q92a, q92b, q92c⟩ := isOf hZ rfl Q88_0
    obtain ⟨_, _, ⟨T92, L92, k92, n92⟩, -, X92, ⟨Lc92, hQ92, l92, y92, z92⟩, st92⟩ := X88.virtualBack hx (y := (⟨"com/example/spanfold/spanfold/RangeList", "hasFrom", "(I)Z"⟩ : MethodName)) (z := (⟨"com/example/spanfold/spanfold/RangeList", "hasFrom", "(I)Z"⟩ : MethodName)) hown (mvT hZ (hw _ (List.mem_of_getElem? (i := 42) rfl))) (mvT hZ (hw _ (List.mem_of_getElem? (i := 43) rfl))) (notFace_of_selects (args := #[]) (mvT hZ (hw _ (List.mem_of_getElem? (i := 45) rfl)))) (mvT hZ (hw _ (List.mem_of_getElem? (i := 45) rfl))) (mvT hZ (hw _ (List.mem_of_getElem? (i := 44) rfl))) (by decide) (backOf (W := 0) (rm8 l Z a0 hw [] b32 (0 : Int32) b81_b50_b4 k4_50_81 (8 : Int32) (((own_cp 8 (1 : Int32).toNatClampNeg ((List.replicate 3 (.int (0 : Int32))).set 0 (.int ((((if v2_0 = (0 : Int32) then (0 : Int32) else (1 : Int32)) ||| (if v7_0 = (0 : Int32) then (0 : Int32) else (2 : Int32))).toInt8.toInt32).toInt8.toInt32))) (.int (0 : Int32))).set 1 (.int ((((if v12_0 = (0 : Int32) then (0 : Int32) else (1 : Int32)) ||| (if v17_0 = (0 : Int32) then (0 : Int32) else (2 : Int32))).toInt8.toInt32).toInt8.toInt32))).set 2 (.int ((((if v22_0 = (0 : Int32) then (0 : Int32) else (1 : Int32)) ||| (if v27_0 = (0 : Int32) then (0 : Int32) else (2 : Int32))).toInt8.toInt32).toInt8.toInt32))) ((((if v2_0 = (0 : Int32) then (0 : Int32) else (1 : Int32)) ||| (if v7_0 = (0 : Int32) then (0 : Int32) else (2 : Int32))).toInt8.toInt32).toInt8.toInt32) (3 : Int32) T88.heap n0 Z_91 Q88_3 Q88_4f Q88_7 (by decide) (by decide) (by decide) (rfl)) hZ (hw _ (List.mem_of_getElem? (i := 46) rfl)) (hw _ (List.mem_of_getElem? (i := 2) rfl)) (by decide) (by decide)) q92a q92c (g := (mkF m 137 #[.val (.int p0), .val (.int p1), .val (.long q2), .second, .val (.long q3), .second, .val (.int v2_0), .val (.int v7_0), .val (.int v12_0), .val (.int v17_0), .val (.int v22_0), .val (.int v27_0), .val (.ref b32)] [(.int (0 : Int32)), (.ref b32)])) rfl (by rw [hml]; rfl) K90 (argsL := [(.int (0 : Int32))]) (rest := []) (lenOf pd_6 rfl) rfl (by show 2 * 0 + _ ≤ _; exact Nat.le_of_eq rfl) (hb hby at_137) (fun _ _ => ⟨rfl, rfl, (by decide : 7 + 0 ≤ _), (by decide : 37 + 0 ≤ _)⟩)
    dsimp only [Pt.U, Pt.locs, Pt.cells, Pt.slots] at X92 l92 y92 z92 st92 hQ92
    subst l92 y92 z92
    obtain ⟨rfl, N92, eh92⟩ := hQ92
    have N92' := Fr.app N88' N92
    have K94 : Steps p.tables e below _ (T92.setTop (mkF m 140 #[.val (.int p0), .val (.int p1), .val (.long q2), .second, .val (.long q3), .second, .val (.int v2_0), .val (.int v7_0), .val (.int v12_0), .val (.int v17_0), .val (.int v22_0), .val (.int v27_0), .val (.ref b32)] [(.int ((if (((((if v2_0 = (0 : Int32) then (0 : Int32) else (1 : Int32)) ||| (if v7_0 = (0 : Int32) then (0 : Int32) else (2 : Int32))).toInt8.toInt32).toInt8.toInt32) &&& (1 : Int32)) = (0 : Int32) then (0 : Int32) else (1 : Int32)) &&& 1))])) := st92
    obtain ⟨r93, hr93⟩ : ∃ z : Int32, ((if (((((if v2_0 = (0 : Int32) then (0 : Int32) else (1 : Int32)) ||| (if v7_0 = (0 : Int32) then (0 : Int32) else (2 : Int32))).toInt8.toInt32).toInt8.toInt32) &&& (1 : Int32)) = (0 : Int32) then (0 : Int32) else (1 : Int32)) &&& 1) = z := ⟨_, rfl⟩
    rw [hr93] at K94
    have K95 : Steps p.tables e below _ (T92.setTop (mkF m 142 #[.val (.int p0), .val (.int p1), .val (.long q2), .second, .val (.long q3), .second, .val (.int v2_0), .val (.int v7_0), .val (.int v12_0), .val (.int v17_0), .val (.int v22_0), .val (.int v27_0), .val (.ref b32)] [(.int v2_0), (.int r93)])) := K94.trans (by
      show Steps p.tables e below (T92.setTop (mkF m 140 #[.val (.int p0), .val (.int p1), .val (.long q2), .second, .val (.long q3), .second, .val (.int v2_0), .val (.int v7_0), .val (.int v12_0), .val (.int v17_0), .val (.int v22_0), .val (.int v27_0), .val (.ref b32)] [(.int r93)])) _
      refine XS.iload X92.here hx rfl (hb hby at_140) rfl ?_
      show Steps p.tables e below (T92.setTop (mkF m 142 #[.val (.int p0), .val (.int p1), .val (.long q2), .second, .val (.long q3), .second, .val (.int v2_0), .val (.int v7_0), .val (.int v12_0), .val (.int v17_0), .val (.int v22_0), .val (.int v27_0), .val (.ref b32)] [(.int v2_0), (.int r93)])) _
      exact Steps.refl _)
    obtain ⟨T96, L96, v96_0, X96, e96, N96, hv96_0, S96⟩ : ∃ (T96 : State) (L96 : List Loc) (v96_0 : Int32), Stand p l e room_1 s m #[(.int p0), (.int p1), (.long q2), (.long q3)] below meth c T96 L96 7 37 ∧ T96.heap = T88.heap ∧ Fr n0 L96 ∧ (if r93 = v2_0 then (if ((if (((((if v12_0 = (0 : Int32) then (0 : Int32) else (1 : Int32)) ||| (if v17_0 = (0 : Int32) then (0 : Int32) else (2 : Int32))).toInt8.toInt32).toInt8.toInt32) &&& (1 : Int32)) = (0 : Int32) then (0 : Int32) else (1 : Int32)) &&& 1) = v12_0 then (if ((if (((((if v22_0 = (0 : Int32) then (0 : Int32) else (1 : Int32)) ||| (if v27_0 = (0 : Int32) then (0 : Int32) else (2 : Int32))).toInt8.toInt32).toInt8.toInt32) &&& (1 : Int32)) = (0 : Int32) then (0 : Int32) else (1 : Int32)) &&& 1) = v22_0 then (1 : Int32) else (0 : Int32)) else (0 : Int32)) else (0 : Int32)) = v96_0 ∧ Steps p.tables e below (T92.setTop (mkF m 142 #[.val (.int p0), .val (.int p1), .val (.long q2), .second, .val (.long q3), .second, .val (.int v2_0), .val (.int v7_0), .val (.int v12_0), .val (.int v17_0), .val (.int v22_0), .val (.int v27_0), .val (.ref b32)] [(.int v2_0), (.int r93)])) (T96.setTop (mkF m 172 #[.val (.int p0), .val (.int p1), .val (.long q2), .second, .val (.long q3), .second, .val (.int v2_0), .val (.int v7_0), .val (.int v12_0), .val (.int v17_0), .val (.int v22_0), .val (.int v27_0), .val (.ref b32)] [(.int v96_0)])) := by
      have R96 : Steps p.tables e below (T92.setTop (mkF m 142 #[.val (.int p0), .val (.int p1), .val (.long q2), .second, .val (.long q3), .second, .val (.int v2_0), .val (.int v7_0), .val (.int v12_0), .val (.int v17_0), .val (.int v22_0), .val (.int v27_0), .val (.ref b32)] [(.int v2_0), (.int r93)])) (T92.setTop (mkF m 142 #[.val (.int p0), .val (.int p1), .val (.long q2), .second, .val (.long q3), .second, .val (.int v2_0), .val (.int v7_0), .val (.int v12_0), .val (.int v17_0), .val (.int v22_0), .val (.int v27_0), .val (.ref b32)] [(.int v2_0), (.int r93)])) := Steps.refl _
      by_cases hc142 : r93 = v2_0
      · have K97 : Steps p.tables e below _ (T92.setTop (mkF m 148 #[.val (.int p0), .val (.int p1), .val (.long q2), .second, .val (.long q3), .second, .val (.int v2_0), .val (.int v7_0), .val (.int v12_0), .val (.int v17_0), .val (.int v22_0), .val (.int v27_0), .val (.ref b32)] [(.int (1 : Int32)), (.ref b32)])) := R96.trans (by
          show Steps p.tables e below (T92.setTop (mkF m 142 #[.val (.int p0), .val (.int p1), .val (.long q2), .second, .val (.long q3), .second, .val (.int v2_0), .val (.int v7_0), .val (.int v12_0), .val (.int v17_0), .val (.int v22_0), .val (.int v27_0), .val (.ref b32)] [(.int v2_0), (.int r93)])) _
          refine XS.icmpNo X92.here hx rfl (hb hby at_142) rfl (teq hc142).2 ?_
          show Steps p.tables e below (T92.setTop (mkF m 145 #[.val (.int p0), .val (.int p1), .val (.long q2), .second, .val (.long q3), .second, .val (.int v2_0), .val (.int v7_0), .val (.int v12_0), .val (.int v17_0), .val (.int v22_0), .val (.int v27_0), .val (.ref b32)] [])) _
          refine XS.aload X92.here hx rfl (hb hby at_145) rfl rfl ?_
          show Steps p.tables e below (T92.setTop (mkF m 147 #[.val (.int p0), .val (.int p1), .val (.long q2), .second, .val (.long q3), .second, .val (.int v2_0), .val (.int v7_0), .val (.int v12_0), .val (.int v17_0), .val (.int v22_0), .val (.int v27_0), .val (.ref b32)] [(.ref b32)])) _
          refine XS.iconst X92.here hx rfl (hb hby at_147) ?_
          show Steps p.tables e below (T92.setTop (mkF m 148 #[.val (.int p0), .val (.int p1), .val (.long q2), .second, .val (.long q3), .second, .val (.int v2_0), .val (.int v7_0), .val (.int v12_0), .val (.int v17_0), .val (.int v22_0), .val (.int v27_0), .val (.ref b32)] [(.int (1 : Int32)), (.ref b32)])) _
          exact Steps.refl _)
        obtain ⟨cq98, kq98, q98a, q98b, q98c⟩ := isOf hZ eh92 Q88_0
        obtain ⟨_, _, ⟨T98, L98, k98, n98⟩, -, X98, ⟨Lc98, hQ98, l98, y98, z98⟩, st98⟩ := X92.virtualBack hx (y := (⟨"com/example/spanfold/spanfold/RangeList", "hasFrom", "(I)Z"⟩ : MethodName)) (z := (⟨"com/example/spanfold/spanfold/RangeList", "hasFrom", "(I)Z"⟩ : MethodName)) hown (mvT hZ (hw _ (List.mem_of_getElem? (i := 42) rfl))) (mvT hZ (hw _ (List.mem_of_getElem? (i := 43) rfl))) (notFace_of_selects (args := #[]) (mvT hZ (hw _ (List.mem_of_getElem? (i := 45) rfl)))) (mvT hZ (hw _ (List.mem_of_getElem? (i := 45) rfl))) (mvT hZ (hw _ (List.mem_of_getElem? (i := 44) rfl))) (by decide) (backOf (W := 0) (rm8 l Z a0 hw [] b32 (1 : Int32) b81_b50_b4 k4_50_81 (8 : Int32) (((own_cp 8 (1 : Int32).toNatClampNeg ((List.replicate 3 (.int (0 : Int32))).set 0 (.int ((((if v2_0 = (0 : Int32) then (0 : Int32) else (1 : Int32)) ||| (if v7_0 = (0 : Int32) then (0 : Int32) else (2 : Int32))).toInt8.toInt32).toInt8.toInt32))) (.int (0 : Int32))).set 1 (.int ((((if v12_0 = (0 : Int32) then (0 : Int32) else (1 : Int32)) ||| (if v17_0 = (0 : Int32) then (0 : Int32) else (2 : Int32))).toInt8.toInt32).toInt8.toInt32))).set 2 (.int ((((if v22_0 = (0 : Int32) then (0 : Int32) else (1 : Int32)) ||| (if v27_0 = (0 : Int32) then (0 : Int32) else (2 : Int32))).toInt8.toInt32).toInt8.toInt32))) ((((if v12_0 = (0 : Int32) then (0 : Int32) else (1 : Int32)) ||| (if v17_0 = (0 : Int32) then (0 : Int32) else (2 : Int32))).toInt8.toInt32).toInt8.toInt32) (3 : Int32) T88.heap n0 Z_91 Q88_3 Q88_4f Q88_7 (by decide) (by decide) (by decide) (rfl)) hZ (hw _ (List.mem_of_getElem? (i := 46) rfl)) (hw _ (List.mem_of_getElem? (i := 2) rfl)) (by decide) (by decide)) q98a q98c (g := (mkF m 148 #[.val (.int p0), .val (.int p1), .val (.long q2), .second, .val (.long q3), .second, .val (.int v2_0), .val (.int v7_0), .val (.int v12_0), .val (.int v17_0), .val (.int v22_0), .val (.int v27_0), .val (.ref b32)] [(.int (1 : Int32)), (.ref b32)])) rfl (by rw [hml]; rfl) K97 (argsL := [(.int (1 : Int32))]) (rest := []) (lenOf pd_6 rfl) rfl (by show 2 * 0 + _ ≤ _; exact Nat.le_of_eq rfl) (hb hby at_148) (fun _ _ => ⟨rfl, eh92, (by decide : 7 + 0 ≤ _), (by decide : 37 + 0 ≤ _)⟩)
        dsimp only [Pt.U, Pt.locs, Pt.cells, Pt.slots] at X98 l98 y98 z98 st98 hQ98
        subst l98 y98 z98
        obtain ⟨rfl, N98, eh98⟩ := hQ98
        have N98' := Fr.app N92' N98
        have K100 : Steps p.tables e below _ (T98.setTop (mkF m 151 #[.val (.int p0), .val (.int p1), .val (.long q2), .second, .val (.long q3), .second, .val (.int v2_0), .val (.int v7_0), .val (.int v12_0), .val (.int v17_0), .val (.int v22_0), .val (.int v27_0), .val (.ref b32)] [(.int ((if (((((if v12_0 = (0 : Int32) then (0 : Int32) else (1 : Int32)) ||| (if v17_0 = (0 : Int32) then (0 : Int32) else (2 : Int32))).toInt8.toInt32).toInt8.toInt32) &&& (1 : Int32)) = (0 : Int32) then (0 : Int32) else (1 : Int32)) &&& 1))])) := st98
        obtain ⟨r99, hr99⟩ : ∃ z : Int32, ((if (((((if v12_0 = (0 : Int32) then (0 : Int32) else (1 : Int32)) ||| (if v17_0 = (0 : Int32) then (0 : Int32) else (2 : Int32))).toInt8.toInt32).toInt8.toInt32) &&& (1 : Int32)) = (0 : Int32) then (0 : Int32) else (1 : Int32)) &&& 1) = z := ⟨_, rfl⟩
        rw [hr99] at K100
        have K101 : Steps p.tables e below _ (T98.setTop (mkF m 153 #[.val (.int p0), .val (.int p1), .val (.long q2), .second, .val (.long q3), .second, .val (.int v2_0), .val (.int v7_0), .val (.int v12_0), .val (.int v17_0), .val (.int v22_0), .val (.int v27_0), .val (.ref b32)] [(.int v12_0), (.int r99)])) := K100.trans (by
          show Steps p.tables e below (T98.setTop (mkF m 151 #[.val (.int p0), .val (.int p1), .val (.long q2), .second, .val (.long q3), .second, .val (.int v2_0), .val (.int v7_0), .val (.int v12_0), .val (.int v17_0), .val (.int v22_0), .val (.int v27_0), .val (.ref b32)] [(.int r99)])) _
          refine XS.iload X98.here hx rfl (hb hby at_151) rfl ?_
          show Steps p.tables e below (T98.setTop (mkF m 153 #[.val (.int p0), .val (.int p1), .val (.long q2), .second, .val (.long q3), .second, .val (.int v2_0), .val (.int v7_0), .val (.int v12_0), .val (.int v17_0), .val (.int v22_0), .val (.int v27_0), .val (.ref b32)] [(.int v12_0), (.int r99)])) _
          exact Steps.refl _)
        by_cases hc153 : r99 = v12_0
        · have K102 : Steps p.tables e below _ (T98.setTop (mkF m 159 #[.val (.int p0), .val (.int p1), .val (.long q2), .second, .val (.long q3), .second, .val (.int v2_0), .val (.int v7_0), .val (.int v12_0), .val (.int v17_0), .val (.int v22_0), .val (.int v27_0), .val (.ref b32)] [(.int (2 : Int32)), (.ref b32)])) := K101.trans (by
            show Steps p.tables e below (T98.setTop (mkF m 153 #[.val (.int p0), .val (.int p1), .val (.long q2), .second, .val (.long q3), .second, .val (.int v2_0), .val (.int v7_0), .val (.int v12_0), .val (.int v17_0), .val (.int v22_0), .val (.int v27_0), .val (.ref b32)] [(.int v12_0), (.int r99)])) _
            refine XS.icmpNo X98.here hx rfl (hb hby at_153) rfl (teq hc153).2 ?_
            show Steps p.tables e below (T98.setTop (mkF m 156 #[.val (.int p0), .val (.int p1), .val (.long q2), .second, .val (.long q3), .second, .val (.int v2_0), .val (.int v7_0), .val (.int v12_0), .val (.int v17_0), .val (.int v22_0), .val (.int v27_0), .val (.ref b32)] [])) _
            refine XS.aload X98.here hx rfl (hb hby at_156) rfl rfl ?_
            show Steps p.tables e below (T98.setTop (mkF m 158 #[.val (.int p0), .val (.int p1), .val (.long q2), .second, .val (.long q3), .second, .val (.int v2_0), .val (.int v7_0), .val (.int v12_0), .val (.int v17_0), .val (.int v22_0), .val (.int v27_0), .val (.ref b32)] [(.ref b32)])) _
            refine XS.iconst X98.here hx rfl (hb hby at_158) ?_
            show Steps p.tables e below (T98.setTop (mkF m 159 #[.val (.int p0), .val (.int p1), .val (.long q2), .second, .val (.long q3), .second, .val (.int v2_0), .val (.int v7_0), .val (.int v12_0), .val (.int v17_0), .val (.int v22_0), .val (.int v27_0), .val (.ref b32)] [(.int (2 : Int32)), (.ref b32)])) _
            exact Steps.refl _)
          obtain ⟨cq103, kq103, q103a, q103b, q103c⟩ := isOf hZ eh98 Q88_0
          obtain ⟨_, _, ⟨T103, L103, k103, n103⟩, -, X103, ⟨Lc103, hQ103, l103, y103, z103⟩, st103⟩ := X98.virtualBack hx (y := (⟨"com/example/spanfold/spanfold/RangeList", "hasFrom", "(I)Z"⟩ : MethodName)) (z := (⟨"com/example/spanfold/spanfold/RangeList", "hasFrom", "(I)Z"⟩ : MethodName)) hown (mvT hZ (hw _ (List.mem_of_getElem? (i := 42) rfl))) (mvT hZ (hw _ (List.mem_of_getElem? (i := 43) rfl))) (notFace_of_selects (args := #[]) (mvT hZ (hw _ (List.mem_of_getElem? (i := 45) rfl)))) (mvT hZ (hw _ (List.mem_of_getElem? (i := 45) rfl))) (mvT hZ (hw _ (List.mem_of_getElem? (i := 44) rfl))) (by decide) (backOf (W := 0) (rm8 l Z a0 hw [] b32 (2 : Int32) b81_b50_b4 k4_50_81 (8 : Int32) (((own_cp 8 (1 : Int32).toNatClampNeg ((List.replicate 3 (.int (0 : Int32))).set 0 (.int ((((if v2_0 = (0 : Int32) then (0 : Int32) else (1 : Int32)) ||| (if v7_0 = (0 : Int32) then (0 : Int32) else (2 : Int32))).toInt8.toInt32).toInt8.toInt32))) (.int (0 : Int32))).set 1 (.int ((((if v12_0 = (0 : Int32) then (0 : Int32) else (1 : Int32)) ||| (if v17_0 = (0 : Int32) then (0 : Int32) else (2 : Int32))).toInt8.toInt32).toInt8.toInt32))).set 2 (.int ((((if v22_0 = (0 : Int32) then (0 : Int32) else (1 : Int32)) ||| (if v27_0 = (0 : Int32) then (0 : Int32) else (2 : Int32))).toInt8.toInt32).toInt8.toInt32))) ((((if v22_0 = (0 : Int32) then (0 : Int32) else (1 : Int32)) ||| (if v27_0 = (0 : Int32) then (0 : Int32) else (2 : Int32))).toInt8.toInt32).toInt8.toInt32) (3 : Int32) T88.heap n0 Z_91 Q88_3 Q88_4f Q88_7 (by decide) (by decide) (by decide) (rfl)) hZ (hw _ (List.mem_of_getElem? (i := 46) rfl)) (hw _ (List.mem_of_getElem? (i := 2) rfl)) (by decide) (by decide)) q103a q103c (g := (mkF m 159 #[.val (.int p0), .val (.int p1), .val (.long q2), .second, .val (.long q3), .second, .val (.int v2_0), .val (.int v7_0), .val (.int v12_0), .val (.int v17_0), .val (.int v22_0), .val (.int v27_0), .val (.ref b32)] [(.int (2 : Int32)), (.ref b32)])) rfl (by rw [hml]; rfl) K102 (argsL := [(.int (2 : Int32))]) (rest := []) (lenOf pd_6 rfl) rfl (by show 2 * 0 + _ ≤ _; exact Nat.le_of_eq rfl) (hb hby at_159) (fun _ _ => ⟨rfl, eh98, (by decide : 7 + 0 ≤ _), (by decide : 37 + 0 ≤ _)⟩)
          dsimp only [Pt.U, Pt.locs, Pt.cells, Pt.slots] at X103 l103 y103 z103 st103 hQ103
          subst l103 y103 z103
          obtain ⟨rfl, N103, eh103⟩ := hQ103
          have N103' := Fr.app N98' N103
          have K105 : Steps p.tables e below _ (T103.setTop (mkF m 162 #[.val (.int p0), .val (.int p1), .val (.long q2), .second, .val (.long q3), .second, .val (.int v2_0), .val (.int v7_0), .val (.int v12_0), .val (.int v17_0), .val (.int v22_0), .val (.int v27_0), .val (.ref b32)] [(.int ((if (((((if v22_0 = (0 : Int32) then (0 : Int32) else (1 : Int32)) ||| (if v27_0 = (0 : Int32) then (0 : Int32) else (2 : Int32))).toInt8.toInt32).toInt8.toInt32) &&& (1 : Int32)) = (0 : Int32) then (0 : Int32) else (1 : Int32)) &&& 1))])) := st103
          obtain ⟨r104, hr104⟩ : ∃ z : Int32, ((if (((((if v22_0 = (0 : Int32) then (0 : Int32) else (1 : Int32)) ||| (if v27_0 = (0 : Int32) then (0 : Int32) else (2 : Int32))).toInt8.toInt32).toInt8.toInt32) &&& (1 : Int32)) = (0 : Int32) then (0 : Int32) else (1 : Int32)) &&& 1) = z := ⟨_, rfl⟩
          rw [hr104] at K105
          have K106 : Steps p.tables e below _ (T103.setTop (mkF m 164 #[.val (.int p0), .val (.int p1), .val (.long q2), .second, .val (.long q3), .second, .val (.int v2_0), .val (.int v7_0), .val (.int v12_0), .val (.int v17_0), .val (.int v22_0), .val (.int v27_0), .val (.ref b32)] [(.int v22_0), (.int r104)])) := K105.trans (by
            show Steps p.tables e below (T103.setTop (mkF m 162 #[.val (.int p0), .val (.int p1), .val (.long q2), .second, .val (.long q3), .second, .val (.int v2_0), .val (.int v7_0), .val (.int v12_0), .val (.int v17_0), .val (.int v22_0), .val (.int v27_0), .val (.ref b32)] [(.int r104)])) _
            refine XS.iload X103.here hx rfl (hb hby at_162) rfl ?_
            show Steps p.tables e below (T103.setTop (mkF m 164 #[.val (.int p0), .val (.int p1), .val (.long q2), .second, .val (.long q3), .second, .val (.int v2_0), .val (.int v7_0), .val (.int v12_0), .val (.int v17_0), .val (.int v22_0), .val (.int v27_0), .val (.ref b32)] [(.int v22_0), (.int r104)])) _
            exact Steps.refl _)
          by_cases hc164 : r104 = v22_0
          · have K107 : Steps p.tables e below _ (T103.setTop (mkF m 172 #[.val (.int p0), .val (.int p1), .val (.long q2), .second, .val (.long q3), .second, .val (.int v2_0), .val (.int v7_0), .val (.int v12_0), .val (.int v17_0), .val (.int v22_0), .val (.int v27_0), .val (.ref b32)] [(.int (1 : Int32))])) := K106.trans (by
              show Steps p.tables e below (T103.setTop (mkF m 164 #[.val (.int p0), .val (.int p1), .val (.long q2), .second, .val (.long q3), .second, .val (.int v2_0), .val (.int v7_0), .val (.int v12_0), .val (.int v17_0), .val (.int v22_0), .val (.int v27_0), .val (.ref b32)] [(.int v22_0), (.int r104)])) _
              refine XS.icmpNo X103.here hx rfl (hb hby at_164) rfl (teq hc164).2 ?_
              show Steps p.tables e below (T103.setTop (mkF m 167 #[.val (.int p0), .val (.int p1), .val (.long q2), .second, .val (.long q3), .second, .val (.int v2_0), .val (.int v7_0), .val (.int v12_0), .val (.int v17_0), .val (.int v22_0), .val (.int v27_0), .val (.ref b32)] [])) _
              refine XS.iconst X103.here hx rfl (hb hby at_167) ?_
              show Steps p.tables e below (T103.setTop (mkF m 168 #[.val (.int p0), .val (.int p1), .val (.long q2), .second, .val (.long q3), .second, .val (.int v2_0), .val (.int v7_0), .val (.int v12_0), .val (.int v17_0), .val (.int v22_0), .val (.int v27_0), .val (.ref b32)] [(.int (1 : Int32))])) _
              refine XS.goto X103.here hx rfl (pc0 := 168) (pc' := 172) rfl (hb hby at_168) (by decide) (by decide) ?_
              show Steps p.tables e below (T103.setTop (mkF m 172 #[.val (.int p0), .val (.int p1), .val (.long q2), .second, .val (.long q3), .second, .val (.int v2_0), .val (.int v7_0), .val (.int v12_0), .val (.int v17_0), .val (.int v22_0), .val (.int v27_0), .val (.ref b32)] [(.int (1 : Int32))])) _
              exact Steps.refl _)
            subst hr104
            subst hr99
            exact ⟨T103, _, (1 : Int32), X103, eh103, N103', (by rw [if_pos hc142, if_pos hc153, if_pos hc164]), K107⟩
          · have K108 : Steps p.tables e below _ (T103.setTop (mkF m 172 #[.val (.int p0), .val (.int p1), .val (.long q2), .second, .val (.long q3), .second, .val (.int v2_0), .val (.int v7_0), .val (.int v12_0), .val (.int v17_0), .val (.int v22_0), .val (.int v27_0), .val (.ref b32)] [(.int (0 : Int32))])) := K106.trans (by
              show Steps p.tables e below (T103.setTop (mkF m 164 #[.val (.int p0), .val (.int p1), .val (.long q2), .second, .val (.long q3), .second, .val (.int v2_0), .val (.int v7_0), .val (.int v12_0), .val (.int v17_0), .val (.int v22_0), .val (.int v27_0), .val (.ref b32)] [(.int v22_0), (.int r104)])) _
              refine XS.icmpYes X103.here hx rfl (pc0 := 164) (pc' := 171) rfl (hb hby at_164) rfl (feq hc164).2 (by decide) (by decide) ?_
              show Steps p.tables e below (T103.setTop (mkF m 171 #[.val (.int p0), .val (.int p1), .val (.long q2), .second, .val (.long q3), .second, .val (.int v2_0), .val (.int v7_0), .val (.int v12_0), .val (.int v17_0), .val (.int v22_0), .val (.int v27_0), .val (.ref b32)] [])) _
              refine XS.iconst X103.here hx rfl (hb hby at_171) ?_
              show Steps p.tables e below (T103.setTop (mkF m 172 #[.val (.int p0), .val (.int p1), .val (.long q2), .second, .val (.long q3), .second, .val (.int v2_0), .val (.int v7_0), .val (.int v12_0), .val (.int v17_0), .val (.int v22_0), .val (.int v27_0), .val (.ref b32)] [(.int (0 : Int32))])) _
              exact Steps.refl _)
            subst hr104
            subst hr99
            exact ⟨T103, _, (0 : Int32), X103, eh103, N103', (by rw [if_pos hc142, if_pos hc153, if_neg hc164]), K108⟩
        · have K109 : Steps p.tables e below _ (T98.setTop (mkF m 172 #[.val (.int p0), .val (.int p1), .val (.long q2), .second, .val (.long q3), .second, .val (.int v2_0), .val (.int v7_0), .val (.int v12_0), .val (.int v17_0), .val (.int v22_0), .val (.int v27_0), .val (.ref b32)] [(.int (0 : Int32))])) := K101.trans (by
            show Steps p.tables e below (T98.setTop (mkF m 153 #[.val (.int p0), .val (.int p1), .val (.long q2), .second, .val (.long q3), .second, .val (.int v2_0), .val (.int v7_0), .val (.int v12_0), .val (.int v17_0), .val (.int v22_0), .val (.int v27_0), .val (.ref b32)] [(.int v12_0), (.int r99)])) _
            refine XS.icmpYes X98.here hx rfl (pc0 := 153) (pc' := 171) rfl (hb hby at_153) rfl (feq hc153).2 (by decide) (by decide) ?_
            show Steps p.tables e below (T98.setTop (mkF m 171 #[.val (.int p0), .val (.int p1), .val (.long q2), .second, .val (.long q3), .second, .val (.int v2_0), .val (.int v7_0), .val (.int v12_0), .val (.int v17_0), .val (.int v22_0), .val (.int v27_0), .val (.ref b32)] [])) _
            refine XS.iconst X98.here hx rfl (hb hby at_171) ?_
            show Steps p.tables e below (T98.setTop (mkF m 172 #[.val (.int p0), .val (.int p1), .val (.long q2), .second, .val (.long q3), .second, .val (.int v2_0), .val (.int v7_0), .val (.int v12_0), .val (.int v17_0), .val (.int v22_0), .val (.int v27_0), .val (.ref b32)] [(.int (0 : Int32))])) _
            exact Steps.refl _)
          subst hr99
          exact ⟨T98, _, (0 : Int32), X98, eh98, N98', (by rw [if_pos hc142, if_neg hc153]), K109⟩
      · have K110 : Steps p.tables e below _ (T92.setTop (mkF m 172 #[.val (.int p0), .val (.int p1), .val (.long q2), .second, .val (.long q3), .second, .val (.int v2_0), .val (.int v7_0), .val (.int v12_0), .val (.int v17_0), .val (.int v22_0), .val (.int v27_0), .val (.ref b32)] [(.int (0 : Int32))])) := R96.trans (by
          show Steps p.tables e below (T92.setTop (mkF m 142 #[.val (.int p0), .val (.int p1), .val (.long q2), .second, .val (.long q3), .second, .val (.int v2_0), .val (.int v7_0), .val (.int v12_0), .val (.int v17_0), .val (.int v22_0), .val (.int v27_0), .val (.ref b32)] [(.int v2_0), (.int r93)])) _
          refine XS.icmpYes X92.here hx rfl (pc0 := 142) (pc' := 171) rfl (hb hby at_142) rfl (feq hc142).2 (by decide) (by decide) ?_
          show Steps p.tables e below (T92.setTop (mkF m 171 #[.val (.int p0), .val (.int p1), .val (.long q2), .second, .val (.long q3), .second, .val (.int v2_0), .val (.int v7_0), .val (.int v12_0), .val (.int v17_0), .val (.int v22_0), .val (.int v27_0), .val (.ref b32)] [])) _
          refine XS.iconst X92.here hx rfl (hb hby at_171) ?_
          show Steps p.tables e below (T92.setTop (mkF m 172 #[.val (.int p0), .val (.int p1), .val (.long q2), .second, .val (.long q3), .second, .val (.int v2_0), .val (.int v7_0), .val (.int v12_0), .val (.int v17_0), .val (.int v22_0), .val (.int v27_0), .val (.ref b32)] [(.int (0 : Int32))])) _
          exact Steps.refl _)
        exact ⟨T92, _, (0 : Int32), X92, eh92, N92', (by rw [if_neg hc142]), K110⟩
    have K111 := K95.trans S96
    have hone : (v96_0 &&& 1) = (1 : Int32) := own_law_1 p0 p1 q2 q3 v2_0 v7_0 v12_0 v17_0 v22_0 v27_0 r93 v96_0 hv2_0 hv7_0 hv12_0 hv17_0 hv22_0 hv27_0 hr93 hv96_0
    obtain ⟨fs, hr, hrun, hended, hW, hsame⟩ := X96.leave (v := some (.int (v96_0 &&& 1))) (fun h => by rw [Bd.returns] at h; cases h)
    exact ⟨_, _, K111.trans (retN X96 hx (t := .boolean) Bd.returns (by simp) (hb hby at_172) hr), hrun, hended, _, _, rfl, ⟨by rw [hone], N96⟩, ⟨_, rfl⟩, hW, hsame.mono (by decide) (by decide)⟩
  · rw [hcap] at K34
    have Z_112 : n0 ≤ h32.size := (Nat.le_trans Z0 E32.1)
    obtain ⟨_, _, ⟨T113, L113, k113, n113⟩, -, X113, ⟨Lc113, hQ113, l113, y113, z113⟩, st113⟩ := X32.specialBack hx (y := (⟨"com/example/spanfold/spanfold/RangeList", "<init>", "(I)V"⟩ : MethodName)) rfl hown (mvT hZ (hw _ (List.mem_of_getElem? (i := 3) rfl))) (mvT hZ (hw _ (List.mem_of_getElem? (i := 4) rfl))) (mvT hZ (hw _ (List.mem_of_getElem? (i := 5) rfl))) (by decide) (backOf (W := 1) (rm1 l Z a0 hw [] b32 (2 : Int32) (0 : Int32) .null .null .null h32 n0 Z_112 A32 F32_size ge_b32 (by decide) F32_froms F32_tos F32_ends) hZ (hw _ (List.mem_of_getElem? (i := 5) rfl)) (hw _ (List.mem_of_getElem? (i := 2) rfl)) (by decide) (by decide)) (g := (mkF m 88 #[.val (.int p0), .val (.int p1), .val (.long q2), .second, .val (.long q3), .second, .val (.int v2_0), .val (.int v7_0), .val (.int v12_0), .val (.int v17_0), .val (.int v22_0), .val (.int v27_0), .unset] [(.int (2 : Int32)), (.ref b32), (.ref b32)])) rfl (by rw [hml]; rfl) K34 (a := b32) (argsL := [(.int (2 : Int32))]) (rest := [(.ref b32)]) (lenOf pd_4 rfl) rfl (by show 2 * 0 + _ ≤ _; exact Nat.le_of_eq rfl) (hb hby at_88) (fun _ _ => ⟨rfl, e32, (by decide : 1 + 3 ≤ _), (by decide : 4 + 9 ≤ _)⟩)
    dsimp only [Pt.U, Pt.locs, Pt.cells, Pt.slots] at X113 l113 y113 z113 st113 hQ113
    subst l113 y113 z113
    obtain ⟨b113_b5, b113_b12, b113_b23, k5_113, k12_113, k23_113, rfl, N113, Kp113, Q113_0, Q113_1, Q113_2, Q113_3, Q113_4, Q113_5, Q113_6, Q113_7, Q113_8, Q113_9, Q113_10, sz113_b5, sz113_b12, sz113_b23, ne113_14, ne113_15, ne113_16⟩ := hQ113
    have ne_b32_b113_b5 : b32 ≠ b113_b5 := Nat.ne_of_lt (Nat.lt_of_lt_of_le A32.lt sz113_b5)
    have ge_b113_b5 : n0 ≤ b113_b5 := Nat.le_trans Z_112 sz113_b5
    have ne_b32_b113_b12 : b32 ≠ b113_b12 := Nat.ne_of_lt (Nat.lt_of_lt_of_le A32.lt sz113_b12)
    have ge_b113_b12 : n0 ≤ b113_b12 := Nat.le_trans Z_112 sz113_b12
    have ne_b32_b113_b23 : b32 ≠ b113_b23 := Nat.ne_of_lt (Nat.lt_of_lt_of_le A32.lt sz113_b23)
    have ge_b113_b23 : n0 ≤ b113_b23 := Nat.le_trans Z_112 sz113_b23
    have N113' := Fr.app N0 N113
    have K114 : Steps p.tables e below _ (T113.setTop (mkF m 91 #[.val (.int p0), .val (.int p1), .val (.long q2), .second, .val (.long q3), .second, .val (.int v2_0), .val (.int v7_0), .val (.int v12_0), .val (.int v17_0), .val (.int v22_0), .val (.int v27_0), .unset] [(.ref b32)])) := st113
    have K115 : Steps p.tables e below _ (T113.setTop (mkF m 102 #[.val (.int p0), .val (.int p1), .val (.long q2), .second, .val (.long q3), .second, .val (.int v2_0), .val (.int v7_0), .val (.int v12_0), .val (.int v17_0), .val (.int v22_0), .val (.int v27_0), .val (.ref b32)] [(.long q3), (.int v7_0), (.long q2), (.int v2_0), (.ref b32)])) := K114.trans (by
      show Steps p.tables e below (T113.setTop (mkF m 91 #[.val (.int p0), .val (.int p1), .val (.long q2), .second, .val (.long q3), .second, .val (.int v2_0), .val (.int v7_0), .val (.int v12_0), .val (.int v17_0), .val (.int v22_0), .val (.int v27_0), .unset] [(.ref b32)])) _
      refine XS.astore X113.here hx rfl (hb hby at_91) rfl rfl (l' := #[.val (.int p0), .val (.int p1), .val (.long q2), .second, .val (.long q3), .second, .val (.int v2_0), .val (.int v7_0), .val (.int v12_0), .val (.int v17_0), .val (.int v22_0), .val (.int v27_0), .val (.ref b32)]) rfl ?_
      show Steps p.tables e below (T113.setTop (mkF m 93 #[.val (.int p0), .val (.int p1), .val (.long q2), .second, .val (.long q3), .second, .val (.int v2_0), .val (.int v7_0), .val (.int v12_0), .val (.int v17_0), .val (.int v22_0), .val (.int v27_0), .val (.ref b32)] [])) _
      refine XS.aload X113.here hx rfl (hb hby at_93) rfl rfl ?_
      show Steps p.tables e below (T113.setTop (mkF m 95 #[.val (.int p0), .val (.int p1), .val (.long q2), .second, .val (.long q3), .second, .val (.int v2_0), .val (.int v7_0), .val (.int v12_0), .val (.int v17_0), .val (.int v22_0), .val (.int v27_0), .val (.ref b32)] [(.ref b32)])) _
      refine XS.iload X113.here hx rfl (hb hby at_95) rfl ?_
      show Steps p.tables e below (T113.setTop (mkF m 97 #[.val (.int p0), .val (.int p1), .val (.long q2), .second, .val (.long q3), .second, .val (.int v2_0), .val (.int v7_0), .val (.int v12_0), .val (.int v17_0), .val (.int v22_0), .val (.int v27_0), .val (.ref b32)] [(.int v2_0), (.ref b32)])) _
      refine XS.lloadN X113.here hx rfl (hb hby at_97) rfl ?_
      show Steps p.tables e below (T113.setTop (mkF m 98 #[.val (.int p0), .val (.int p1), .val (.long q2), .second, .val (.long q3), .second, .val (.int v2_0), .val (.int v7_0), .val (.int v12_0), .val (.int v17_0), .val (.int v22_0), .val (.int v27_0), .val (.ref b32)] [(.long q2), (.int v2_0), (.ref b32)])) _
      refine XS.iload X113.here hx rfl (hb hby at_98) rfl ?_
      show Steps p.tables e below (T113.setTop (mkF m 100 #[.val (.int p0), .val (.int p1), .val (.long q2), .second, .val (.long q3), .second, .val (.int v2_0), .val (.int v7_0), .val (.int v12_0), .val (.int v17_0), .val (.int v22_0), .val (.int v27_0), .val (.ref b32)] [(.int v7_0), (.long q2), (.int v2_0), (.ref b32)])) _
      refine XS.lload X113.here hx rfl (hb hby at_100) rfl ?_
      show Steps p.tables e below (T113.setTop (mkF m 102 #[.val (.int p0), .val (.int p1), .val (.long q2), .second, .val (.long q3), .second, .val (.int v2_0), .val (.int v7_0), .val (.int v12_0), .val (.int v17_0), .val (.int v22_0), .val (.int v27_0), .val (.ref b32)] [(.long q3), (.int v7_0), (.long q2), (.int v2_0), (.ref b32)])) _
      exact Steps.refl _)
    have Z_116 : n0 ≤ T113.heap.size := (Nat.le_trans Z_112 Kp113.1)
    obtain ⟨cq117, kq117, q117a, q117b, q117c⟩ := isOf hZ rfl Q113_0
    obtain ⟨_, _, ⟨T117, L117, k117, n117⟩, -, X117, ⟨Lc117, hQ117, l117, y117, z117⟩, st117⟩ := X113.virtualBack hx (y := (⟨"com/example/spanfold/spanfold/RangeList", "add", "(ZJZJ)V"⟩ : MethodName)) (z := (⟨"com/example/spanfold/spanfold/RangeList", "add", "(ZJZJ)V"⟩ : MethodName)) hown (mvT hZ (hw _ (List.mem_of_getElem? (i := 17) rfl))) (mvT hZ (hw _ (List.mem_of_getElem? (i := 18) rfl))) (notFace_of_selects (args := #[]) (mvT hZ (hw _ (List.mem_of_getElem? (i := 20) rfl)))) (mvT hZ (hw _ (List.mem_of_getElem? (i := 20) rfl))) (mvT hZ (hw _ (List.mem_of_getElem? (i := 19) rfl))) (by decide) (backOf (W := 0) (rm3n l Z a0 hw [] b32 v2_0 q2 v7_0 q3 b113_b5 b113_b12 b113_b23 k5_113 k12_113 k23_113 (2 : Int32) (List.replicate 3 (.long (0 : Int64))) (List.replicate 3 (.long (0 : Int64))) (List.replicate 3 (.int (0 : Int32))) (0 : Int32) 0 T113.heap n0 Z_116 Q113_0 Q113_4 Q113_7 Q113_10 Q113_1 Q113_2 Q113_5 Q113_8 ne_b32_b113_b5 ne_b32_b113_b12 ne_b32_b113_b23 ne113_14 ne113_15 ne113_16 ge_b32 ge_b113_b5 ge_b113_b12 ge_b113_b23 (by decide) (by decide) (rfl) (Nat.le_of_ble_eq_true rfl) (Nat.le_of_ble_eq_true rfl) (Nat.le_of_ble_eq_true rfl)) hZ (hw _ (List.mem_of_getElem? (i := 21) rfl)) (hw _ (List.mem_of_getElem? (i := 2) rfl)) (by decide) (by decide)) q117a q117c (g := (mkF m 102 #[.val (.int p0), .val (.int p1), .val (.long q2), .second, .val (.long q3), .second, .val (.int v2_0), .val (.int v7_0), .val (.int v12_0), .val (.int v17_0), .val (.int v22_0), .val (.int v27_0), .val (.ref b32)] [(.long q3), (.int v7_0), (.long q2), (.int v2_0), (.ref b32)])) rfl (by rw [hml]; rfl) K115 (argsL := [(.int v2_0), (.long q2), (.int v7_0), (.long q3)]) (rest := []) (lenOf pd_5 rfl) rfl (by show 2 * 0 + _ ≤ _; exact Nat.le_of_eq rfl) (hb hby at_102) (fun _ _ => ⟨rfl, rfl, (by decide : 4 + 0 ≤ _), (by decide : 13 + 0 ≤ _)⟩)
    dsimp only [Pt.U, Pt.locs, Pt.cells, Pt.slots] at X117 l117 y117 z117 st117 hQ117
    subst l117 y117 z117
    obtain ⟨rfl, N117, Kp117, Q117_0, Q117_1, Q117_2, Q117_3, Q117_4, Q117_5, Q117_6, Q117_7⟩ := hQ117
    have Q117_4f : Fld Z T117.heap b32 "com/example/spanfold/spanfold/RangeList" "size" "I" (.int (1 : Int32)) := Q117_4
    have N117' := Fr.app N113' N117
    have K118 : Steps p.tables e below _ (T117.setTop (mkF m 105 #[.val (.int p0), .val (.int p1), .val (.long q2), .second, .val (.long q3), .second, .val (.int v2_0), .val (.int v7_0), .val (.int v12_0), .val (.int v17_0), .val (.int v22_0), .val (.int v27_0), .val (.ref b32)] [])) := st117
    have K119 : Steps p.tables e below _ (T117.setTop (mkF m 114 #[.val (.int p0), .val (.int p1), .val (.long q2), .second, .val (.long q3), .second, .val (.int v2_0), .val (.int v7_0), .val (.int v12_0), .val (.int v17_0), .val (.int v22_0), .val (.int v27_0), .val (.ref b32)] [(.long q2), (.int v17_0), (.long q3), (.int v12_0), (.ref b32)])) := K118.trans (by
      show Steps p.tables e below (T117.setTop (mkF m 105 #[.val (.int p0), .val (.int p1), .val (.long q2), .second, .val (.long q3), .second, .val (.int v2_0), .val (.int v7_0), .val (.int v12_0), .val (.int v17_0), .val (.int v22_0), .val (.int v27_0), .val (.ref b32)] [])) _
      refine XS.aload X117.here hx rfl (hb hby at_105) rfl rfl ?_
      show Steps p.tables e below (T117.setTop (mkF m 107 #[.val (.int p0), .val (.int p1), .val (.long q2), .second, .val (.long q3), .second, .val (.int v2_0), .val (.int v7_0), .val (.int v12_0), .val (.int v17_0), .val (.int v22_0), .val (.int v27_0), .val (.ref b32)] [(.ref b32)])) _
      refine XS.iload X117.here hx rfl (hb hby at_107) rfl ?_
      show Steps p.tables e below (T117.setTop (mkF m 109 #[.val (.int p0), .val (.int p1), .val (.long q2), .second, .val (.long q3), .second, .val (.int v2_0), .val (.int v7_0), .val (.int v12_0), .val (.int v17_0), .val (.int v22_0), .val (.int v27_0), .val (.ref b32)] [(.int v12_0), (.ref b32)])) _
      refine XS.lload X117.here hx rfl (hb hby at_109) rfl ?_
      show Steps p.tables e below (T117.setTop (mkF m 111 #[.val (.int p0), .val (.int p1), .val (.long q2), .second, .val (.long q3), .second, .val (.int v2_0), .val (.int v7_0), .val (.int v12_0), .val (.int v17_0), .val (.int v22_0), .val (.int v27_0), .val (.ref b32)] [(.long q3), (.int v12_0), (.ref b32)])) _
      refine XS.iload X117.here hx rfl (hb hby at_111) rfl ?_
      show Steps p.tables e below (T117.setTop (mkF m 113 #[.val (.int p0), .val (.int p1), .val (.long q2), .second, .val (.long q3), .second, .val (.int v2_0), .val (.int v7_0), .val (.int v12_0), .val (.int v17_0), .val (.int v22_0), .val (.int v27_0), .val (.ref b32)] [(.int v17_0), (.long q3), (.int v12_0), (.ref b32)])) _
      refine XS.lloadN X117.here hx rfl (hb hby at_113) rfl ?_
      show Steps p.tables e below (T117.setTop (mkF m 114 #[.val (.int p0), .val (.int p1), .val (.long q2), .second, .val (.long q3), .second, .val (.int v2_0), .val (.int v7_0), .val (.int v12_0), .val (.int v17_0), .val (.int v22_0), .val (.int v27_0), .val (.ref b32)] [(.long q2), (.int v17_0), (.long q3), (.int v12_0), (.ref b32)])) _
      exact Steps.refl _)
    have Z_120 : n0 ≤ T117.heap.size := (Nat.le_trans Z_116 Kp117.1)
    obtain ⟨cq121, kq121, q121a, q121b, q121c⟩ := isOf hZ rfl Q117_0
    obtain ⟨_, _, ⟨T121, L121, k121, n121⟩, -, X121, ⟨Lc121, hQ121, l121, y121, z121⟩, st121⟩ := X117.virtualBack hx (y := (⟨"com/example/spanfold/spanfold/RangeList", "add", "(ZJZJ)V"⟩ : MethodName)) (z := (⟨"com/example/spanfold/spanfold/RangeList", "add", "(ZJZJ)V"⟩ : MethodName)) hown (mvT hZ (hw _ (List.mem_of_getElem? (i := 17) rfl))) (mvT hZ (hw _ (List.mem_of_getElem? (i := 18) rfl))) (notFace_of_selects (args := #[]) (mvT hZ (hw _ (List.mem_of_getElem? (i := 20) rfl)))) (mvT hZ (hw _ (List.mem_of_getElem? (i := 20) rfl))) (mvT hZ (hw _ (List.mem_of_getElem? (i := 19) rfl))) (by decide) (backOf (W := 0) (rm3n l Z a0 hw [] b32 v12_0 q3 v17_0 q2 b113_b5 b113_b12 b113_b23 k5_113 k12_113 k23_113 (2 : Int32) ((List.replicate 3 (.long (0 : Int64))).set 0 (.long (if v2_0 = (0 : Int32) then (0 : Int64) else q2))) ((List.replicate 3 (.long (0 : Int64))).set 0 (.long (if v7_0 = (0 : Int32) then (0 : Int64) else q3))) ((List.replicate 3 (.int (0 : Int32))).set 0 (.int ((((if v2_0 = (0 : Int32) then (0 : Int32) else (1 : Int32)) ||| (if v7_0 = (0 : Int32) then (0 : Int32) else (2 : Int32))).toInt8.toInt32).toInt8.toInt32))) (1 : Int32) 1 T117.heap n0 Z_120 Q117_0 Q117_1 Q117_2 Q117_3 Q117_4f Q117_5 Q117_6 Q117_7 ne_b32_b113_b5 ne_b32_b113_b12 ne_b32_b113_b23 ne113_14 ne113_15 ne113_16 ge_b32 ge_b113_b5 ge_b113_b12 ge_b113_b23 (by decide) (by decide) (rfl) (Nat.le_of_ble_eq_true rfl) (Nat.le_of_ble_eq_true rfl) (Nat.le_of_ble_eq_true rfl)) hZ (hw _ (List.mem_of_getElem? (i := 21) rfl)) (hw _ (List.mem_of_getElem? (i := 2) rfl)) (by decide) (by decide)) q121a q121c (g := (mkF m 114 #[.val (.int p0), .val (.int p1), .val (.long q2), .second, .val (.long q3), .second, .val (.int v2_0), .val (.int v7_0), .val (.int v12_0), .val (.int v17_0), .val (.int v22_0), .val (.int v27_0), .val (.ref b32)] [(.long q2), (.int v17_0), (.long q3), (.int v12_0), (.ref b32)])) rfl (by rw [hml]; rfl) K119 (argsL := [(.int v12_0), (.long q3), (.int v17_0), (.long q2)]) (rest := []) (lenOf pd_5 rfl) rfl (by show 2 * 0 + _ ≤ _; exact Nat.le_of_eq rfl) (hb hby at_114) (fun _ _ => ⟨rfl, rfl, (by decide : 4 + 0 ≤ _), (by decide : 13 + 0 ≤ _)⟩)
    dsimp only [Pt.U, Pt.locs, Pt.cells, Pt.slots] at X121 l121 y121 z121 st121 hQ121
    subst l121 y121 z121
    obtain ⟨rfl, N121, Kp121, Q121_0, Q121_1, Q121_2, Q121_3, Q121_4, Q121_5, Q121_6, Q121_7⟩ := hQ121
    have Q121_4f : Fld Z T121.heap b32 "com/example/spanfold/spanfold/RangeList" "size" "I" (.int (2 : Int32)) := Q121_4
    have N121' := Fr.app N117' N121
    have K122 : Steps p.tables e below _ (T121.setTop (mkF m 117 #[.val (.int p0), .val (.int p1), .val (.long q2), .second, .val (.long q3), .second, .val (.int v2_0), .val (.int v7_0), .val (.int v12_0), .val (.int v17_0), .val (.int v22_0), .val (.int v27_0), .val (.ref b32)] [])) := st121
    have K123 : Steps p.tables e below _ (T121.setTop (mkF m 131 #[.val (.int p0), .val (.int p1), .val (.long q2), .second, .val (.long q3), .second, .val (.int v2_0), .val (.int v7_0), .val (.int v12_0), .val (.int v17_0), .val (.int v22_0), .val (.int v27_0), .val (.ref b32)] [(.long (q2 + q3)), (.int v27_0), (.long (q2 ^^^ q3)), (.int v22_0), (.ref b32)])) := K122.trans (by
      show Steps p.tables e below (T121.setTop (mkF m 117 #[.val (.int p0), .val (.int p1), .val (.long q2), .second, .val (.long q3), .second, .val (.int v2_0), .val (.int v7_0), .val (.int v12_0), .val (.int v17_0), .val (.int v22_0), .val (.int v27_0), .val (.ref b32)] [])) _
      refine XS.aload X121.here hx rfl (hb hby at_117) rfl rfl ?_
      show Steps p.tables e below (T121.setTop (mkF m 119 #[.val (.int p0), .val (.int p1), .val (.long q2), .second, .val (.long q3), .second, .val (.int v2_0), .val (.int v7_0), .val (.int v12_0), .val (.int v17_0), .val (.int v22_0), .val (.int v27_0), .val (.ref b32)] [(.ref b32)])) _
      refine XS.iload X121.here hx rfl (hb hby at_119) rfl ?_
      show Steps p.tables e below (T121.setTop (mkF m 121 #[.val (.int p0), .val (.int p1), .val (.long q2), .second, .val (.long q3), .second, .val (.int v2_0), .val (.int v7_0), .val (.int v12_0), .val (.int v17_0), .val (.int v22_0), .val (.int v27_0), .val (.ref b32)] [(.int v22_0), (.ref b32)])) _
      refine XS.lloadN X121.here hx rfl (hb hby at_121) rfl ?_
      show Steps p.tables e below (T121.setTop (mkF m 122 #[.val (.int p0), .val (.int p1), .val (.long q2), .second, .val (.long q3), .second, .val (.int v2_0), .val (.int v7_0), .val (.int v12_0), .val (.int v17_0), .val (.int v22_0), .val (.int v27_0), .val (.ref b32)] [(.long q2), (.int v22_0), (.ref b32)])) _
      refine XS.lload X121.here hx rfl (hb hby at_122) rfl ?_
      show Steps p.tables e below (T121.setTop (mkF m 124 #[.val (.int p0), .val (.int p1), .val (.long q2), .second, .val (.long q3), .second, .val (.int v2_0), .val (.int v7_0), .val (.int v12_0), .val (.int v17_0), .val (.int v22_0), .val (.int v27_0), .val (.ref b32)] [(.long q3), (.long q2), (.int v22_0), (.ref b32)])) _
      refine XS.lxor X121.here hx rfl (hb hby at_124) rfl ?_
      show Steps p.tables e below (T121.setTop (mkF m 125 #[.val (.int p0), .val (.int p1), .val (.long q2), .second, .val (.long q3), .second, .val (.int v2_0), .val (.int v7_0), .val (.int v12_0), .val (.int v17_0), .val (.int v22_0), .val (.int v27_0), .val (.ref b32)] [(.long (q2 ^^^ q3)), (.int v22_0), (.ref b32)])) _
      refine XS.iload X121.here hx rfl (hb hby at_125) rfl ?_
      show Steps p.tables e below (T121.setTop (mkF m 127 #[.val (.int p0), .val (.int p1), .val (.long q2), .second, .val (.long q3), .second, .val (.int v2_0), .val (.int v7_0), .val (.int v12_0), .val (.int v17_0), .val (.int v22_0), .val (.int v27_0), .val (.ref b32)] [(.int v27_0), (.long (q2 ^^^ q3)), (.int v22_0), (.ref b32)])) _
      refine XS.lloadN X121.here hx rfl (hb hby at_127) rfl ?_
      show Steps p.tables e below (T121.setTop (mkF m 128 #[.val (.int p0), .val (.int p1), .val (.long q2), .second, .val (.long q3), .second, .val (.int v2_0), .val (.int v7_0), .val (.int v12_0), .val (.int v17_0), .val (.int v22_0), .val (.int v27_0), .val (.ref b32)] [(.long q2), (.int v27_0), (.long (q2 ^^^ q3)), (.int v22_0), (.ref b32)])) _
      refine XS.lload X121.here hx rfl (hb hby at_128) rfl ?_
      show Steps p.tables e below (T121.setTop (mkF m 130 #[.val (.int p0), .val (.int p1), .val (.long q2), .second, .val (.long q3), .second, .val (.int v2_0), .val (.int v7_0), .val (.int v12_0), .val (.int v17_0), .val (.int v22_0), .val (.int v27_0), .val (.ref b32)] [(.long q3), (.long q2), (.int v27_0), (.long (q2 ^^^ q3)), (.int v22_0), (.ref b32)])) _
      refine XS.ladd X121.here hx rfl (hb hby at_130) rfl ?_
      show Steps p.tables e below (T121.setTop (mkF m 131 #[.val (.int p0), .val (.int p1), .val (.long q2), .second, .val (.long q3), .second, .val (.int v2_0), .val (.int v7_0), .val (.int v12_0), .val (.int v17_0), .val (.int v22_0), .val (.int v27_0), .val (.ref b32)] [(.long (q2 + q3)), (.int v27_0), (.long (q2 ^^^ q3)), (.int v22_0), (.ref b32)])) _
      exact Steps.refl _)
    have Z_124 : n0 ≤ T121.heap.size := (Nat.le_trans Z_120 Kp121.1)
    obtain ⟨cq125, kq125, q125a, q125b, q125c⟩ := isOf hZ rfl Q121_0
    obtain ⟨_, _, ⟨T125, L125, k125, n125⟩, -, X125, ⟨Lc125, hQ125, l125, y125, z125⟩, st125⟩ := X121.virtualBack hx (y := (⟨"com/example/spanfold/spanfold/RangeList", "add", "(ZJZJ)V"⟩ : MethodName)) (z := (⟨"com/example/spanfold/spanfold/RangeList", "add", "(ZJZJ)V"⟩ : MethodName)) hown (mvT hZ (hw _ (List.mem_of_getElem? (i := 17) rfl))) (mvT hZ (hw _ (List.mem_of_getElem? (i := 18) rfl))) (notFace_of_selects (args := #[]) (mvT hZ (hw _ (List.mem_of_getElem? (i := 20) rfl)))) (mvT hZ (hw _ (List.mem_of_getElem? (i := 20) rfl))) (mvT hZ (hw _ (List.mem_of_getElem? (i := 19) rfl))) (by decide) (backOf (W := 0) (rm3g l Z a0 hw [] b32 v22_0 (q2 ^^^ q3) v27_0 (q2 + q3) b113_b5 b113_b12 b113_b23 k5_113 k12_113 k23_113 (2 : Int32) (((List.replicate 3 (.long (0 : Int64))).set 0 (.long (if v2_0 = (0 : Int32) then (0 : Int64) else q2))).set 1 (.long (if v12_0 = (0 : Int32) then (0 : Int64) else q3))) (((List.replicate 3 (.long (0 : Int64))).set 0 (.long (if v7_0 = (0 : Int32) then (0 : Int64) else q3))).set 1 (.long (if v17_0 = (0 : Int32) then (0 : Int64) else q2))) (((List.replicate 3 (.int (0 : Int32))).set 0 (.int ((((if v2_0 = (0 : Int32) then (0 : Int32) else (1 : Int32)) ||| (if v7_0 = (0 : Int32) then (0 : Int32) else (2 : Int32))).toInt8.toInt32).toInt8.toInt32))).set 1 (.int ((((if v12_0 = (0 : Int32) then (0 : Int32) else (1 : Int32)) ||| (if v17_0 = (0 : Int32) then (0 : Int32) else (2 : Int32))).toInt8.toInt32).toInt8.toInt32))) (2 : Int32) 2 T121.heap n0 Z_124 Q121_0 Q121_1 Q121_2 Q121_3 Q121_4f Q121_5 Q121_6 Q121_7 ne_b32_b113_b5 ne_b32_b113_b12 ne_b32_b113_b23 ne113_14 ne113_15 ne113_16 ge_b32 (rfl) (by decide) (by decide) (by decide) (by decide) (rfl) (by decide) (by decide)) hZ (hw _ (List.mem_of_getElem? (i := 21) rfl)) (hw _ (List.mem_of_getElem? (i := 2) rfl)) (by decide) (by decide)) q125a q125c (g := (mkF m 131 #[.val (.int p0), .val (.int p1), .val (.long q2), .second, .val (.long q3), .second, .val (.int v2_0), .val (.int v7_0), .val (.int v12_0), .val (.int v17_0), .val (.int v22_0), .val (.int v27_0), .val (.ref b32)] [(.long (q2 + q3)), (.int v27_0), (.long (q2 ^^^ q3)), (.int v22_0), (.ref b32)])) rfl (by rw [hml]; rfl) K123 (argsL := [(.int v22_0), (.long (q2 ^^^ q3)), (.int v27_0), (.long (q2 + q3))]) (rest := []) (lenOf pd_5 rfl) rfl (by show 2 * 0 + _ ≤ _; exact Nat.le_of_eq rfl) (hb hby at_131) (fun _ _ => ⟨rfl, rfl, (by decide : 4 + 3 ≤ _), (by decide : 13 + 24 ≤ _)⟩)
    dsimp only [Pt.U, Pt.locs, Pt.cells, Pt.slots] at X125 l125 y125 z125 st125 hQ125
    subst l125 y125 z125
    obtain ⟨b125_b19_b4, b125_b32_b4, b125_b50_b4, k4_19_125, k4_32_125, k4_50_125, rfl, N125, Kp125, Q125_0, Q125_1, Q125_2, Q125_3, Q125_4, Q125_5, Q125_6, Q125_7, Q125_8, Q125_9, Q125_10, sz125_b19_b4, sz125_b32_b4, sz125_b50_b4, ne125_14, ne125_15, ne125_16⟩ := hQ125
    have ne_b32_b125_b19_b4 : b32 ≠ b125_b19_b4 := Nat.ne_of_lt (Nat.lt_of_lt_of_le Q121_0.lt sz125_b19_b4)
    have E_126 : Exa Z T121.heap b113_b5 "[J" := ((Q113_3.keep Kp117).keep Kp121)
    have ne_b113_b5_b125_b19_b4 : b113_b5 ≠ b125_b19_b4 := Nat.ne_of_lt (Nat.lt_of_lt_of_le E_126.lt sz125_b19_b4)
    have E_127 : Exa Z T121.heap b113_b12 "[J" := ((Q113_6.keep Kp117).keep Kp121)
    have ne_b113_b12_b125_b19_b4 : b113_b12 ≠ b125_b19_b4 := Nat.ne_of_lt (Nat.lt_of_lt_of_le E_127.lt sz125_b19_b4)
    have E_128 : Exa Z T121.heap b113_b23 "[B" := ((Q113_9.keep Kp117).keep Kp121)
    have ne_b113_b23_b125_b19_b4 : b113_b23 ≠ b125_b19_b4 := Nat.ne_of_lt (Nat.lt_of_lt_of_le E_128.lt sz125_b19_b4)
    have ge_b125_b19_b4 : n0 ≤ b125_b19_b4 := Nat.le_trans Z_124 sz125_b19_b4
    have ne_b32_b125_b32_b4 : b32 ≠ b125_b32_b4 := Nat.ne_of_lt (Nat.lt_of_lt_of_le Q121_0.lt sz125_b32_b4)
    have ne_b113_b5_b125_b32_b4 : b113_b5 ≠ b125_b32_b4 := Nat.ne_of_lt (Nat.lt_of_lt_of_le E_126.lt sz125_b32_b4)
    have ne_b113_b12_b125_b32_b4 : b113_b12 ≠ b125_b32_b4 := Nat.ne_of_lt (Nat.lt_of_lt_of_le E_127.lt sz125_b32_b4)
    have ne_b113_b23_b125_b32_b4 : b113_b23 ≠ b125_b32_b4 := Nat.ne_of_lt (Nat.lt_of_lt_of_le E_128.lt sz125_b32_b4)
    have ge_b125_b32_b4 : n0 ≤ b125_b32_b4 := Nat.le_trans Z_124 sz125_b32_b4
    have ne_b32_b125_b50_b4 : b32 ≠ b125_b50_b4 := Nat.ne_of_lt (Nat.lt_of_lt_of_le Q121_0.lt sz125_b50_b4)
    have ne_b113_b5_b125_b50_b4 : b113_b5 ≠ b125_b50_b4 := Nat.ne_of_lt (Nat.lt_of_lt_of_le E_126.lt sz125_b50_b4)
    have ne_b113_b12_b125_b50_b4 : b113_b12 ≠ b125_b50_b4 := Nat.ne_of_lt (Nat.lt_of_lt_of_le E_127.lt sz125_b50_b4)
    have ne_b113_b23_b125_b50_b4 : b113_b23 ≠ b125_b50_b4 := Nat.ne_of_lt (Nat.lt_of_lt_of_le E_128.lt sz125_b50_b4)
    have ge_b125_b50_b4 : n0 ≤ b125_b50_b4 := Nat.le_trans Z_124 sz125_b50_b4
    have Q125_4f : Fld Z T125.heap b32 "com/example/spanfold/spanfold/RangeList" "size" "I" (.int (3 : Int32)) := Q125_4
    have N125' := Fr.app N121' N125
    have K129 : Steps p.tables e below _ (T125.setTop (mkF m 134 #[.val (.int p0), .val (.int p1), .val (.long q2), .second, .val (.long q3), .second, .val (.int v2_0), .val (.int v7_0), .val (.int v12_0), .val (.int v17_0), .val (.int v22_0), .val (.int v27_0), .val (.ref b32)] [])) := st125
    have K130 : Steps p.tables e below _ (T125.setTop (mkF m 137 #[.val (.int p0), .val (.int p1), .val (.long q2), .second, .val (.long q3), .second, .val (.int v2_0), .val (.int v7_0), .val (.int v12_0), .val (.int v17_0), .val (.int v22_0), .val (.int v27_0), .val (.ref b32)] [(.int (0 : Int32)), (.ref b32)])) := K129.trans (by
      show Steps p.tables e below (T125.setTop (mkF m 134 #[.val (.int p0), .val (.int p1), .val (.long q2), .second, .val (.long q3), .second, .val (.int v2_0), .val (.int v7_0), .val (.int v12_0), .val (.int v17_0), .val (.int v22_0), .val (.int v27_0), .val (.ref b32)] [])) _
      refine XS.aload X125.here hx rfl (hb hby at_134) rfl rfl ?_
      show Steps p.tables e below (T125.setTop (mkF m 136 #[.val (.int p0), .val (.int p1), .val (.long q2), .second, .val (.long q3), .second, .val (.int v2_0), .val (.int v7_0), .val (.int v12_0), .val (.int v17_0), .val (.int v22_0), .val (.int v27_0), .val (.ref b32)] [(.ref b32)])) _
      refine XS.iconst X125.here hx rfl (hb hby at_136) ?_
      show Steps p.tables e below (T125.setTop (mkF m 137 #[.val (.int p0), .val (.int p1), .val (.long q2), .second, .val (.long q3), .second, .val (.int v2_0), .val (.int v7_0), .val (.int v12_0), .val (.int v17_0), .val (.int v22_0), .val (.int v27_0), .val (.ref b32)] [(.int (0 : Int32)), (.ref b32)])) _
      exact Steps.refl _)
    have Z_131 : n0 ≤ T125.heap.size := (Nat.le_trans Z_124 Kp125.1)
    obtain ⟨cq132, kq132, q132a, q132b, q132c⟩ := isOf hZ rfl Q125_0
    obtain ⟨_, _, ⟨T132, L132, k132, n132⟩, -, X132, ⟨Lc132, hQ132, l132, y132, z132⟩, st132⟩ := X125.virtualBack hx (y := (⟨"com/example/spanfold/spanfold/RangeList", "hasFrom", "(I)Z"⟩ : MethodName)) (z := (⟨"com/example/spanfold/spanfold/RangeList", "hasFrom", "(I)Z"⟩ : MethodName)) hown (mvT hZ (hw _ (List.mem_of_getElem? (i := 42) rfl))) (mvT hZ (hw _ (List.mem_of_getElem? (i := 43) rfl))) (notFace_of_selects (args := #[]) (mvT hZ (hw _ (List.mem_of_getElem? (i := 45) rfl)))) (mvT hZ (hw _ (List.mem_of_getElem? (i := 45) rfl))) (mvT hZ (hw _ (List.mem_of_getElem? (i := 44) rfl))) (by decide) (backOf (W := 0) (rm8 l Z a0 hw [] b32 (0 : Int32) b125_b50_b4 k4_50_125 (8 : Int32) ((own_cp 8 (2 : Int32).toNatClampNeg (((List.replicate 3 (.int (0 : Int32))).set 0 (.int ((((if v2_0 = (0 : Int32) then (0 : Int32) else (1 : Int32)) ||| (if v7_0 = (0 : Int32) then (0 : Int32) else (2 : Int32))).toInt8.toInt32).toInt8.toInt32))).set 1 (.int ((((if v12_0 = (0 : Int32) then (0 : Int32) else (1 : Int32)) ||| (if v17_0 = (0 : Int32) then (0 : Int32) else (2 : Int32))).toInt8.toInt32).toInt8.toInt32))) (.int (0 : Int32))).set 2 (.int ((((if v22_0 = (0 : Int32) then (0 : Int32) else (1 : Int32)) ||| (if v27_0 = (0 : Int32) then (0 : Int32) else (2 : Int32))).toInt8.toInt32).toInt8.toInt32))) ((((if v2_0 = (0 : Int32) then (0 : Int32) else (1 : Int32)) ||| (if v7_0 = (0 : Int32) then (0 : Int32) else (2 : Int32))).toInt8.toInt32).toInt8.toInt32) (3 : Int32) T125.heap n0 Z_131 Q125_3 Q125_4f Q125_10 (by decide) (by decide) (by decide) (rfl)) hZ (hw _ (List.mem_of_getElem? (i := 46) rfl)) (hw _ (List.mem_of_getElem? (i := 2) rfl)) (by decide) (by decide)) q132a q132c (g := (mkF m 137 #[.val (.int p0), .val (.int p1), .val (.long q2), .second, .val (.long q3), .second, .val (.int v2_0), .val (.int v7_0), .val (.int v12_0), .val (.int v17_0), .val (.int v22_0), .val (.int v27_0), .val (.ref b32)] [(.int (0 : Int32)), (.ref b32)])) rfl (by rw [hml]; rfl) K130 (argsL := [(.int (0 : Int32))]) (rest := []) (lenOf pd_6 rfl) rfl (by show 2 * 0 + _ ≤ _; exact Nat.le_of_eq rfl) (hb hby at_137) (fun _ _ => ⟨rfl, rfl, (by decide : 7 + 0 ≤ _), (by decide : 37 + 0 ≤ _)⟩)
    dsimp only [Pt.U, Pt.locs, Pt.cells, Pt.slots] at X132 l132 y132 z132 st132 hQ132
    subst l132 y132 z132
    obtain ⟨rfl, N132, eh132⟩ := hQ132
    have N132' := Fr.app N125' N132
    have K134 : Steps p.tables e below _ (T132.setTop (mkF m 140 #[.val (.int p0), .val (.int p1), .val (.long q2), .second, .val (.long q3), .second, .val (.int v2_0), .val (.int v7_0), .val (.int v12_0), .val (.int v17_0), .val (.int v22_0), .val (.int v27_0), .val (.ref b32)] [(.int ((if (((((if v2_0 = (0 : Int32) then (0 : Int32) else (1 : Int32)) ||| (if v7_0 = (0 : Int32) then (0 : Int32) else (2 : Int32))).toInt8.toInt32).toInt8.toInt32) &&& (1 : Int32)) = (0 : Int32) then (0 : Int32) else (1 : Int32)) &&& 1))])) := st132
    obtain ⟨r133, hr133⟩ : ∃ z : Int32, ((if (((((if v2_0 = (0 : Int32) then (0 : Int32) else (1 : Int32)) ||| (if v7_0 = (0 : Int32) then (0 : Int32) else (2 : Int32))).toInt8.toInt32).toInt8.toInt32) &&& (1 : Int32)) = (0 : Int32) then (0 : Int32) else (1 : Int32)) &&& 1) = z := ⟨_, rfl⟩
    rw [hr133] at K134
    have K135 : Steps p.tables e below _ (T132.setTop (mkF m 142 #[.val (.int p0), .val (.int p1), .val (.long q2), .second, .val (.long q3), .second, .val (.int v2_0), .val (.int v7_0), .val (.int v12_0), .val (.int v17_0), .val (.int v22_0), .val (.int v27_0), .val (.ref b32)] [(.int v2_0), (.int r133)])) := K134.trans (by
      show Steps p.tables e below (T132.setTop (mkF m 140 #[.val (.int p0), .val (.int p1), .val (.long q2), .second, .val (.long q3), .second, .val (.int v2_0), .val (.int v7_0), .val (.int v12_0), .val (.int v17_0), .val (.int v22_0), .val (.int v27_0), .val (.ref b32)] [(.int r133)])) _
      refine XS.iload X132.here hx rfl (hb hby at_140) rfl ?_
      show Steps p.tables e below (T132.setTop (mkF m 142 #[.val (.int p0), .val (.int p1), .val (.long q2), .second, .val (.long q3), .second, .val (.int v2_0), .val (.int v7_0), .val (.int v12_0), .val (.int v17_0), .val (.int v22_0), .val (.int v27_0), .val (.ref b32)] [(.int v2_0), (.int r133)])) _
      exact Steps.refl _)
    obtain ⟨T136, L136, v136_0, X136, e136, N136, hv136_0, S136⟩ : ∃ (T136 : State) (L136 : List Loc) (v136_0 : Int32), Stand p l e room_1 s m #[(.int p0), (.int p1), (.long q2), (.long q3)] below meth c T136 L136 7 37 ∧ T136.heap = T125.heap ∧ Fr n0 L136 ∧ (if r133 = v2_0 then (if ((if (((((if v12_0 = (0 : Int32) then (0 : Int32) else (1 : Int32)) ||| (if v17_0 = (0 : Int32) then (0 : Int32) else (2 : Int32))).toInt8.toInt32).toInt8.toInt32) &&& (1 : Int32)) = (0 : Int32) then (0 : Int32) else (1 : Int32)) &&& 1) = v12_0 then (if ((if (((((if v22_0 = (0 : Int32) then (0 : Int32) else (1 : Int32)) ||| (if v27_0 = (0 : Int32) then (0 : Int32) else (2 : Int32))).toInt8.toInt32).toInt8.toInt32) &&& (1 : Int32)) = (0 : Int32) then (0 : Int32) else (1 : Int32)) &&& 1) = v22_0 then (1 : Int32) else (0 : Int32)) else (0 : Int32)) else (0 : Int32)) = v136_0 ∧ Steps p.tables e below (T132.setTop (mkF m 142 #[.val (.int p0), .val (.int p1), .val (.long q2), .second, .val (.long q3), .second, .val (.int v2_0), .val (.int v7_0), .val (.int v12_0), .val (.int v17_0), .val (.int v22_0), .val (.int v27_0), .val (.ref b32)] [(.int v2_0), (.int r133)])) (T136.setTop (mkF m 172 #[.val (.int p0), .val (.int p1), .val (.long q2), .second, .val (.long q3), .second, .val (.int v2_0), .val (.int v7_0), .val (.int v12_0), .val (.int v17_0), .val (.int v22_0), .val (.int v27_0), .val (.ref b32)] [(.int v136_0)])) := by
      have R136 : Steps p.tables e below (T132.setTop (mkF m 142 #[.val (.int p0), .val (.int p1), .val (.long q2), .second, .val (.long q3), .second, .val (.int v2_0), .val (.int v7_0), .val (.int v12_0), .val (.int v17_0), .val (.int v22_0), .val (.int v27_0), .val (.ref b32)] [(.int v2_0), (.int r133)])) (T132.setTop (mkF m 142 #[.val (.int p0), .val (.int p1), .val (.long q2), .second, .val (.long q3), .second, .val (.int v2_0), .val (.int v7_0), .val (.int v12_0), .val (.int v17_0), .val (.int v22_0), .val (.int v27_0), .val (.ref b32)] [(.int v2_0), (.int r133)])) := Steps.refl _
      by_cases hc142 : r133 = v2_0
      · have K137 : Steps p.tables e below _ (T132.setTop (mkF m 148 #[.val (.int p0), .val (.int p1), .val (.long q2), .second, .val (.long q3), .second, .val (.int v2_0), .val (.int v7_0), .val (.int v12_0), .val (.int v17_0), .val (.int v22_0), .val (.int v27_0), .val (.ref b32)] [(.int (1 : Int32)), (.ref b32)])) := R136.trans (by
          show Steps p.tables e below (T132.setTop (mkF m 142 #[.val (.int p0), .val (.int p1), .val (.long q2), .second, .val (.long q3), .second, .val (.int v2_0), .val (.int v7_0), .val (.int v12_0), .val (.int v17_0), .val (.int v22_0), .val (.int v27_0), .val (.ref b32)] [(.int v2_0), (.int r133)])) _
          refine XS.icmpNo X132.here hx rfl (hb hby at_142) rfl (teq hc142).2 ?_
          show Steps p.tables e below (T132.setTop (mkF m 145 #[.val (.int p0), .val (.int p1), .val (.long q2), .second, .val (.long q3), .second, .val (.int v2_0), .val (.int v7_0), .val (.int v12_0), .val (.int v17_0), .val (.int v22_0), .val (.int v27_0), .val (.ref b32)] [])) _
          refine XS.aload X132.here hx rfl (hb hby at_145) rfl rfl ?_
          show Steps p.tables e below (T132.setTop (mkF m 147 #[.val (.int p0), .val (.int p1), .val (.long q2), .second, .val (.long q3), .second, .val (.int v2_0), .val (.int v7_0), .val (.int v12_0), .val (.int v17_0), .val (.int v22_0), .val (.int v27_0), .val (.ref b32)] [(.ref b32)])) _
          refine XS.iconst X132.here hx rfl (hb hby at_147) ?_
          show Steps p.tables e below (T132.setTop (mkF m 148 #[.val (.int p0), .val (.int p1), .val (.long q2), .second, .val (.long q3), .second, .val (.int v2_0), .val (.int v7_0), .val (.int v12_0), .val (.int v17_0), .val (.int v22_0), .val (.int v27_0), .val (.ref b32)] [(.int (1 : Int32)), (.ref b32)])) _
          exact Steps.refl _)
        obtain ⟨cq138, kq138, q138a, q138b, q138c⟩ := isOf hZ eh132 Q125_0
        obtain ⟨_, _, ⟨T138, L138, k138, n138⟩, -, X138, ⟨Lc138, hQ138, l138, y138, z138⟩, st138⟩ := X132.virtualBack hx (y := (⟨"com/example/spanfold/spanfold/RangeList", "hasFrom", "(I)Z"⟩ : MethodName)) (z := (⟨"com/example/spanfold/spanfold/RangeList", "hasFrom", "(I)Z"⟩ : MethodName)) hown (mvT hZ (hw _ (List.mem_of_getElem? (i := 42) rfl))) (mvT hZ (hw _ (List.mem_of_getElem? (i := 43) rfl))) (notFace_of_selects (args := #[]) (mvT hZ (hw _ (List.mem_of_getElem? (i := 45) rfl)))) (mvT hZ (hw _ (List.mem_of_getElem? (i := 45) rfl))) (mvT hZ (hw _ (List.mem_of_getElem? (i := 44) rfl))) (by decide) (backOf (W := 0) (rm8 l Z a0 hw [] b32 (1 : Int32) b125_b50_b4 k4_50_125 (8 : Int32) ((own_cp 8 (2 : Int32).toNatClampNeg (((List.replicate 3 (.int (0 : Int32))).set 0 (.int ((((if v2_0 = (0 : Int32) then (0 : Int32) else (1 : Int32)) ||| (if v7_0 = (0 : Int32) then (0 : Int32) else (2 : Int32))).toInt8.toInt32).toInt8.toInt32))).set 1 (.int ((((if v12_0 = (0 : Int32) then (0 : Int32) else (1 : Int32)) ||| (if v17_0 = (0 : Int32) then (0 : Int32) else (2 : Int32))).toInt8.toInt32).toInt8.toInt32))) (.int (0 : Int32))).set 2 (.int ((((if v22_0 = (0 : Int32) then (0 : Int32) else (1 : Int32)) ||| (if v27_0 = (0 : Int32) then (0 : Int32) else (2 : Int32))).toInt8.toInt32).toInt8.toInt32))) ((((if v12_0 = (0 : Int32) then (0 : Int32) else (1 : Int32)) ||| (if v17_0 = (0 : Int32) then (0 : Int32) else (2 : Int32))).toInt8.toInt32).toInt8.toInt32) (3 : Int32) T125.heap n0 Z_131 Q125_3 Q125_4f Q125_10 (by decide) (by decide) (by decide) (rfl)) hZ (hw _ (List.mem_of_getElem? (i := 46) rfl)) (hw _ (List.mem_of_getElem? (i := 2) rfl)) (by decide) (by decide)) q138a q138c (g := (mkF m 148 #[.val (.int p0), .val (.int p1), .val (.long q2), .second, .val (.long q3), .second, .val (.int v2_0), .val (.int v7_0), .val (.int v12_0), .val (.int v17_0), .val (.int v22_0), .val (.int v27_0), .val (.ref b32)] [(.int (1 : Int32)), (.ref b32)])) rfl (by rw [hml]; rfl) K137 (argsL := [(.int (1 : Int32))]) (rest := []) (lenOf pd_6 rfl) rfl (by show 2 * 0 + _ ≤ _; exact Nat.le_of_eq rfl) (hb hby at_148) (fun _ _ => ⟨rfl, eh132, (by decide : 7 + 0 ≤ _), (by decide : 37 + 0 ≤ _)⟩)
        dsimp only [Pt.U, Pt.locs, Pt.cells, Pt.slots] at X138 l138 y138 z138 st138 hQ138
        subst l138 y138 z138
        obtain ⟨rfl, N138, eh138⟩ := hQ138
        have N138' := Fr.app N132' N138
        have K140 : Steps p.tables e below _ (T138.setTop (mkF m 151 #[.val (.int p0), .val (.int p1), .val (.long q2), .second, .val (.long q3), .second, .val (.int v2_0), .val (.int v7_0), .val (.int v12_0), .val (.int v17_0), .val (.int v22_0), .val (.int v27_0), .val (.ref b32)] [(.int ((if (((((if v12_0 = (0 : Int32) then (0 : Int32) else (1 : Int32)) ||| (if v17_0 = (0 : Int32) then (0 : Int32) else (2 : Int32))).toInt8.toInt32).toInt8.toInt32) &&& (1 : Int32)) = (0 : Int32) then (0 : Int32) else (1 : Int32)) &&& 1))])) := st138
        obtain ⟨r139, hr139⟩ : ∃ z : Int32, ((if (((((if v12_0 = (0 : Int32) then (0 : Int32) else (1 : Int32)) ||| (if v17_0 = (0 : Int32) then (0 : Int32) else (2 : Int32))).toInt8.toInt32).toInt8.toInt32) &&& (1 : Int32)) = (0 : Int32) then (0 : Int32) else (1 : Int32)) &&& 1) = z := ⟨_, rfl⟩
        rw [hr139] at K140
        have K141 : Steps p.tables e below _ (T138.setTop (mkF m 153 #[.val (.int p0), .val (.int p1), .val (.long q2), .second, .val (.long q3), .second, .val (.int v2_0), .val (.int v7_0), .val (.int v12_0), .val (.int v17_0), .val (.int v22_0), .val (.int v27_0), .val (.ref b32)] [(.int v12_0), (.int r139)])) := K140.trans (by
          show Steps p.tables e below (T138.setTop (mkF m 151 #[.val (.int p0), .val (.int p1), .val (.long q2), .second, .val (.long q3), .second, .val (.int v2_0), .val (.int v7_0), .val (.int v12_0), .val (.int v17_0), .val (.int v22_0), .val (.int v27_0), .val (.ref b32)] [(.int r139)])) _
          refine XS.iload X138.here hx rfl (hb hby at_151) rfl ?_
          show Steps p.tables e below (T138.setTop (mkF m 153 #[.val (.int p0), .val (.int p1), .val (.long q2), .second, .val (.long q3), .second, .val (.int v2_0), .val (.int v7_0), .val (.int v12_0), .val (.int v17_0), .val (.int v22_0), .val (.int v27_0), .val (.ref b32)] [(.int v12_0), (.int r139)])) _
          exact Steps.refl _)
        by_cases hc153 : r139 = v12_0
        · have K142 : Steps p.tables e below _ (T138.setTop (mkF m 159 #[.val (.int p0), .val (.int p1), .val (.long q2), .second, .val (.long q3), .second, .val (.int v2_0), .val (.int v7_0), .val (.int v12_0), .val (.int v17_0), .val (.int v22_0), .val (.int v27_0), .val (.ref b32)] [(.int (2 : Int32)), (.ref b32)])) := K141.trans (by
            show Steps p.tables e below (T138.setTop (mkF m 153 #[.val (.int p0), .val (.int p1), .val (.long q2), .second, .val (.long q3), .second, .val (.int v2_0), .val (.int v7_0), .val (.int v12_0), .val (.int v17_0), .val (.int v22_0), .val (.int v27_0), .val (.ref b32)] [(.int v12_0), (.int r139)])) _
            refine XS.icmpNo X138.here hx rfl (hb hby at_153) rfl (teq hc153).2 ?_
            show Steps p.tables e below (T138.setTop (mkF m 156 #[.val (.int p0), .val (.int p1), .val (.long q2), .second, .val (.long q3), .second, .val (.int v2_0), .val (.int v7_0), .val (.int v12_0), .val (.int v17_0), .val (.int v22_0), .val (.int v27_0), .val (.ref b32)] [])) _
            refine XS.aload X138.here hx rfl (hb hby at_156) rfl rfl ?_
            show Steps p.tables e below (T138.setTop (mkF m 158 #[.val (.int p0), .val (.int p1), .val (.long q2), .second, .val (.long q3), .second, .val (.int v2_0), .val (.int v7_0), .val (.int v12_0), .val (.int v17_0), .val (.int v22_0), .val (.int v27_0), .val (.ref b32)] [(.ref b32)])) _
            refine XS.iconst X138.here hx rfl (hb hby at_158) ?_
            show Steps p.tables e below (T138.setTop (mkF m 159 #[.val (.int p0), .val (.int p1), .val (.long q2), .second, .val (.long q3), .second, .val (.int v2_0), .val (.int v7_0), .val (.int v12_0), .val (.int v17_0), .val (.int v22_0), .val (.int v27_0), .val (.ref b32)] [(.int (2 : Int32)), (.ref b32)])) _
            exact Steps.refl _)
          obtain ⟨cq143, kq143, q143a, q143b, q143c⟩ := isOf hZ eh138 Q125_0
          obtain ⟨_, _, ⟨T143, L143, k143, n143⟩, -, X143, ⟨Lc143, hQ143, l143, y143, z143⟩, st143⟩ := X138.virtualBack hx (y := (⟨"com/example/spanfold/spanfold/RangeList", "hasFrom", "(I)Z"⟩ : MethodName)) (z := (⟨"com/example/spanfold/spanfold/RangeList", "hasFrom", "(I)Z"⟩ : MethodName)) hown (mvT hZ (hw _ (List.mem_of_getElem? (i := 42) rfl))) (mvT hZ (hw _ (List.mem_of_getElem? (i := 43) rfl))) (notFace_of_selects (args := #[]) (mvT hZ (hw _ (List.mem_of_getElem? (i := 45) rfl)))) (mvT hZ (hw _ (List.mem_of_getElem? (i := 45) rfl))) (mvT hZ (hw _ (List.mem_of_getElem? (i := 44) rfl))) (by decide) (backOf (W := 0) (rm8 l Z a0 hw [] b32 (2 : Int32) b125_b50_b4 k4_50_125 (8 : Int32) ((own_cp 8 (2 : Int32).toNatClampNeg (((List.replicate 3 (.int (0 : Int32))).set 0 (.int ((((if v2_0 = (0 : Int32) then (0 : Int32) else (1 : Int32)) ||| (if v7_0 = (0 : Int32) then (0 : Int32) else (2 : Int32))).toInt8.toInt32).toInt8.toInt32))).set 1 (.int ((((if v12_0 = (0 : Int32) then (0 : Int32) else (1 : Int32)) ||| (if v17_0 = (0 : Int32) then (0 : Int32) else (2 : Int32))).toInt8.toInt32).toInt8.toInt32))) (.int (0 : Int32))).set 2 (.int ((((if v22_0 = (0 : Int32) then (0 : Int32) else (1 : Int32)) ||| (if v27_0 = (0 : Int32) then (0 : Int32) else (2 : Int32))).toInt8.toInt32).toInt8.toInt32))) ((((if v22_0 = (0 : Int32) then (0 : Int32) else (1 : Int32)) ||| (if v27_0 = (0 : Int32) then (0 : Int32) else (2 : Int32))).toInt8.toInt32).toInt8.toInt32) (3 : Int32) T125.heap n0 Z_131 Q125_3 Q125_4f Q125_10 (by decide) (by decide) (by decide) (rfl)) hZ (hw _ (List.mem_of_getElem? (i := 46) rfl)) (hw _ (List.mem_of_getElem? (i := 2) rfl)) (by decide) (by decide)) q143a q143c (g := (mkF m 159 #[.val (.int p0), .val (.int p1), .val (.long q2), .second, .val (.long q3), .second, .val (.int v2_0), .val (.int v7_0), .val (.int v12_0), .val (.int v17_0), .val (.int v22_0), .val (.int v27_0), .val (.ref b32)] [(.int (2 : Int32)), (.ref b32)])) rfl (by rw [hml]; rfl) K142 (argsL := [(.int (2 : Int32))]) (rest := []) (lenOf pd_6 rfl) rfl (by show 2 * 0 + _ ≤ _; exact Nat.le_of_eq rfl) (hb hby at_159) (fun _ _ => ⟨rfl, eh138, (by decide : 7 + 0 ≤ _), (by decide : 37 + 0 ≤ _)⟩)
          dsimp only [Pt.U, Pt.locs, Pt.cells, Pt.slots] at X143 l143 y143 z143 st143 hQ143
          subst l143 y143 z143
          obtain ⟨rfl, N143, eh143⟩ := hQ143
          have N143' := Fr.app N138' N143
          have K145 : Steps p.tables e below _ (T143.setTop (mkF m 162 #[.val (.int p0), .val (.int p1), .val (.long q2), .second, .val (.long q3), .second, .val (.int v2_0), .val (.int v7_0), .val (.int v12_0), .val (.int v17_0), .val (.int v22_0), .val (.int v27_0), .val (.ref b32)] [(.int ((if (((((if v22_0 = (0 : Int32) then (0 : Int32) else (1 : Int32)) ||| (if v27_0 = (0 : Int32) then (0 : Int32) else (2 : Int32))).toInt8.toInt32).toInt8.toInt32) &&& (1 : Int32)) = (0 : Int32) then (0 : Int32) else (1 : Int32)) &&& 1))])) := st143
          obtain ⟨r144, hr144⟩ : ∃ z : Int32, ((if (((((if v22_0 = (0 : Int32) then (0 : Int32) else (1 : Int32)) ||| (if v27_0 = (0 : Int32) then (0 : Int32) else (2 : Int32))).toInt8.toInt32).toInt8.toInt32) &&& (1 : Int32)) = (0 : Int32) then (0 : Int32) else (1 : Int32)) &&& 1) = z := ⟨_, rfl⟩
          rw [hr144] at K145
          have K146 : Steps p.tables e below _ (T143.setTop (mkF m 164 #[.val (.int p0), .val (.int p1), .val (.long q2), .second, .val (.long q3), .second, .val (.int v2_0), .val (.int v7_0), .val (.int v12_0), .val (.int v17_0), .val (.int v22_0), .val (.int v27_0), .val (.ref b32)] [(.int v22_0), (.int r144)])) := K145.trans (by
            show Steps p.tables e below (T143.setTop (mkF m 162 #[.val (.int p0), .val (.int p1), .val (.long q2), .second, .val (.long q3), .second, .val (.int v2_0), .val (.int v7_0), .val (.int v12_0), .val (.int v17_0), .val (.int v22_0), .val (.int v27_0), .val (.ref b32)] [(.int r144)])) _
            refine XS.iload X143.here hx rfl (hb hby at_162) rfl ?_
            show Steps p.tables e below (T143.setTop (mkF m 164 #[.val (.int p0), .val (.int p1), .val (.long q2), .second, .val (.long q3), .second, .val (.int v2_0), .val (.int v7_0), .val (.int v12_0), .val (.int v17_0), .val (.int v22_0), .val (.int v27_0), .val (.ref b32)] [(.int v22_0), (.int r144)])) _
            exact Steps.refl _)
          by_cases hc164 : r144 = v22_0
          · have K147 : Steps p.tables e below _ (T143.setTop (mkF m 172 #[.val (.int p0), .val (.int p1), .val (.long q2), .second, .val (.long q3), .second, .val (.int v2_0), .val (.int v7_0), .val (.int v12_0), .val (.int v17_0), .val (.int v22_0), .val (.int v27_0), .val (.ref b32)] [(.int (1 : Int32))])) := K146.trans (by
              show Steps p.tables e below (T143.setTop (mkF m 164 #[.val (.int p0), .val (.int p1), .val (.long q2), .second, .val (.long q3), .second, .val (.int v2_0), .val (.int v7_0), .val (.int v12_0), .val (.int v17_0), .val (.int v22_0), .val (.int v27_0), .val (.ref b32)] [(.int v22_0), (.int r144)])) _
              refine XS.icmpNo X143.here hx rfl (hb hby at_164) rfl (teq hc164).2 ?_
              show Steps p.tables e below (T143.setTop (mkF m 167 #[.val (.int p0), .val (.int p1), .val (.long q2), .second, .val (.long q3), .second, .val (.int v2_0), .val (.int v7_0), .val (.int v12_0), .val (.int v17_0), .val (.int v22_0), .val (.int v27_0), .val (.ref b32)] [])) _
              refine XS.iconst X143.here hx rfl (hb hby at_167) ?_
              show Steps p.tables e below (T143.setTop (mkF m 168 #[.val (.int p0), .val (.int p1), .val (.long q2), .second, .val (.long q3), .second, .val (.int v2_0), .val (.int v7_0), .val (.int v12_0), .val (.int v17_0), .val (.int v22_0), .val (.int v27_0), .val (.ref b32)] [(.int (1 : Int32))])) _
              refine XS.goto X143.here hx rfl (pc0 := 168) (pc' := 172) rfl (hb hby at_168) (by decide) (by decide) ?_
              show Steps p.tables e below (T143.setTop (mkF m 172 #[.val (.int p0), .val (.int p1), .val (.long q2), .second, .val (.long q3), .second, .val (.int v2_0), .val (.int v7_0), .val (.int v12_0), .val (.int v17_0), .val (.int v22_0), .val (.int v27_0), .val (.ref b32)] [(.int (1 : Int32))])) _
              exact Steps.refl _)
            subst hr144
            subst hr139
            exact ⟨T143, _, (1 : Int32), X143, eh143, N143', (by rw [if_pos hc142, if_pos hc153, if_pos hc164]), K147⟩
          · have K148 : Steps p.tables e below _ (T143.setTop (mkF m 172 #[.val (.int p0), .val (.int p1), .val (.long q2), .second, .val (.long q3), .second, .val (.int v2_0), .val (.int v7_0), .val (.int v12_0), .val (.int v17_0), .val (.int v22_0), .val (.int v27_0), .val (.ref b32)] [(.int (0 : Int32))])) := K146.trans (by
              show Steps p.tables e below (T143.setTop (mkF m 164 #[.val (.int p0), .val (.int p1), .val (.long q2), .second, .val (.long q3), .second, .val (.int v2_0), .val (.int v7_0), .val (.int v12_0), .val (.int v17_0), .val (.int v22_0), .val (.int v27_0), .val (.ref b32)] [(.int v22_0), (.int r144)])) _
              refine XS.icmpYes X143.here hx rfl (pc0 := 164) (pc' := 171) rfl (hb hby at_164) rfl (feq hc164).2 (by decide) (by decide) ?_
              show Steps p.tables e below (T143.setTop (mkF m 171 #[.val (.int p0), .val (.int p1), .val (.long q2), .second, .val (.long q3), .second, .val (.int v2_0), .val (.int v7_0), .val (.int v12_0), .val (.int v17_0), .val (.int v22_0), .val (.int v27_0), .val (.ref b32)] [])) _
              refine XS.iconst X143.here hx rfl (hb hby at_171) ?_
              show Steps p.tables e below (T143.setTop (mkF m 172 #[.val (.int p0), .val (.int p1), .val (.long q2), .second, .val (.long q3), .second, .val (.int v2_0), .val (.int v7_0), .val (.int v12_0), .val (.int v17_0), .val (.int v22_0), .val (.int v27_0), .val (.ref b32)] [(.int (0 : Int32))])) _
              exact Steps.refl _)
            subst hr144
            subst hr139
            exact ⟨T143, _, (0 : Int32), X143, eh143, N143', (by rw [if_pos hc142, if_pos hc153, if_neg hc164]), K148⟩
        · have K149 : Steps p.tables e below _ (T138.setTop (mkF m 172 #[.val (.int p0), .val (.int p1), .val (.long q2), .second, .val (.long q3), .second, .val (.int v2_0), .val (.int v7_0), .val (.int v12_0), .val (.int v17_0), .val (.int v22_0), .val (.int v27_0), .val (.ref b32)] [(.int (0 : Int32))])) := K141.trans (by
            show Steps p.tables e below (T138.setTop (mkF m 153 #[.val (.int p0), .val (.int p1), .val (.long q2), .second, .val (.long q3), .second, .val (.int v2_0), .val (.int v7_0), .val (.int v12_0), .val (.int v17_0), .val (.int v22_0), .val (.int v27_0), .val (.ref b32)] [(.int v12_0), (.int r139)])) _
            refine XS.icmpYes X138.here hx rfl (pc0 := 153) (pc' := 171) rfl (hb hby at_153) rfl (feq hc153).2 (by decide) (by decide) ?_
            show Steps p.tables e below (T138.setTop (mkF m 171 #[.val (.int p0), .val (.int p1), .val (.long q2), .second, .val (.long q3), .second, .val (.int v2_0), .val (.int v7_0), .val (.int v12_0), .val (.int v17_0), .val (.int v22_0), .val (.int v27_0), .val (.ref b32)] [])) _
            refine XS.iconst X138.here hx rfl (hb hby at_171) ?_
            show Steps p.tables e below (T138.setTop (mkF m 172 #[.val (.int p0), .val (.int p1), .val (.long q2), .second, .val (.long q3), .second, .val (.int v2_0), .val (.int v7_0), .val (.int v12_0), .val (.int v17_0), .val (.int v22_0), .val (.int v27_0), .val (.ref b32)] [(.int (0 : Int32))])) _
            exact Steps.refl _)
          subst hr139
          exact ⟨T138, _, (0 : Int32), X138, eh138, N138', (by rw [if_pos hc142, if_neg hc153]), K149⟩
      · have K150 : Steps p.tables e below _ (T132.setTop (mkF m 172 #[.val (.int p0), .val (.int p1), .val (.long q2), .second, .val (.long q3), .second, .val (.int v2_0), .val (.int v7_0), .val (.int v12_0), .val (.int v17_0), .val (.int v22_0), .val (.int v27_0), .val (.ref b32)] [(.int (0 : Int32))])) := R136.trans (by
          show Steps p.tables e below (T132.setTop (mkF m 142 #[.val (.int p0), .val (.int p1), .val (.long q2), .second, .val (.long q3), .second, .val (.int v2_0), .val (.int v7_0), .val (.int v12_0), .val (.int v17_0), .val (.int v22_0), .val (.int v27_0), .val (.ref b32)] [(.int v2_0), (.int r133)])) _
          refine XS.icmpYes X132.here hx rfl (pc0 := 142) (pc' := 171) rfl (hb hby at_142) rfl (feq hc142).2 (by decide) (by decide) ?_
          show Steps p.tables e below (T132.setTop (mkF m 171 #[.val (.int p0), .val (.int p1), .val (.long q2), .second, .val (.long q3), .second, .val (.int v2_0), .val (.int v7_0), .val (.int v12_0), .val (.int v17_0), .val (.int v22_0), .val (.int v27_0), .val (.ref b32)] [])) _
          refine XS.iconst X132.here hx rfl (hb hby at_171) ?_
          show Steps p.tables e below (T132.setTop (mkF m 172 #[.val (.int p0), .val (.int p1), .val (.long q2), .second, .val (.long q3), .second, .val (.int v2_0), .val (.int v7_0), .val (.int v12_0), .val (.int v17_0), .val (.int v22_0), .val (.int v27_0), .val (.ref b32)] [(.int (0 : Int32))])) _
          exact Steps.refl _)
        exact ⟨T132, _, (0 : Int32), X132, eh132, N132', (by rw [if_neg hc142]), K150⟩
    have K151 := K135.trans S136
    have hone : (v136_0 &&& 1) = (1 : Int32) := own_law_2 p0 p1 q2 q3 v2_0 v7_0 v12_0 v17_0 v22_0 v27_0 r133 v136_0 hv2_0 hv7_0 hv12_0 hv17_0 hv22_0 hv27_0 hr133 hv136_0
    obtain ⟨fs, hr, hrun, hended, hW, hsame⟩ := X136.leave (v := some (.int (v136_0 &&& 1))) (fun h => by rw [Bd.returns] at h; cases h)
    exact ⟨_, _, K151.trans (retN X136 hx (t := .boolean) Bd.returns (by simp) (hb hby at_172) hr), hrun, hended, _, _, rfl, ⟨by rw [hone], N136⟩, ⟨_, rfl⟩, hW, hsame.mono (by decide) (by decide)⟩
  · rw [hcap] at K34
    have Z_152 : n0 ≤ h32.size := (Nat.le_trans Z0 E32.1)
    obtain ⟨_, _, ⟨T153, L153, k153, n153⟩, -, X153, ⟨Lc153, hQ153, l153, y153, z153⟩, st153⟩ := X32.specialBack hx (y := (⟨"com/example/spanfold/spanfold/RangeList", "<init>", "(I)V"⟩ : MethodName)) rfl hown (mvT hZ (hw _ (List.mem_of_getElem? (i := 3) rfl))) (mvT hZ (hw _ (List.mem_of_getElem? (i := 4) rfl))) (mvT hZ (hw _ (List.mem_of_getElem? (i := 5) rfl))) (by decide) (backOf (W := 1) (rm1 l Z a0 hw [] b32 (3 : Int32) (0 : Int32) .null .null .null h32 n0 Z_152 A32 F32_size ge_b32 (by decide) F32_froms F32_tos F32_ends) hZ (hw _ (List.mem_of_getElem? (i := 5) rfl)) (hw _ (List.mem_of_getElem? (i := 2) rfl)) (by decide) (by decide)) (g := (mkF m 88 #[.val (.int p0), .val (.int p1), .val (.long q2), .second, .val (.long q3), .second, .val (.int v2_0), .val (.int v7_0), .val (.int v12_0), .val (.int v17_0), .val (.int v22_0), .val (.int v27_0), .unset] [(.int (3 : Int32)), (.ref b32), (.ref b32)])) rfl (by rw [hml]; rfl) K34 (a := b32) (argsL := [(.int (3 : Int32))]) (rest := [(.ref b32)]) (lenOf pd_4 rfl) rfl (by show 2 * 0 + _ ≤ _; exact Nat.le_of_eq rfl) (hb hby at_88) (fun _ _ => ⟨rfl, e32, (by decide : 1 + 3 ≤ _), (by decide : 4 + 9 ≤ _)⟩)
    dsimp only [Pt.U, Pt.locs, Pt.cells, Pt.slots] at X153 l153 y153 z153 st153 hQ153
    subst l153 y153 z153
    obtain ⟨b153_b5, b153_b12, b153_b23, k5_153, k12_153, k23_153, rfl, N153, Kp153, Q153_0, Q153_1, Q153_2, Q153_3, Q153_4, Q153_5, Q153_6, Q153_7, Q153_8, Q153_9, Q153_10, sz153_b5, sz153_b12, sz153_b23, ne153_14, ne153_15, ne153_16⟩ := hQ153
    have ne_b32_b153_b5 : b32 ≠ b153_b5 := Nat.ne_of_lt (Nat.lt_of_lt_of_le A32.lt sz153_b5)
    have ge_b153_b5 : n0 ≤ b153_b5 := Nat.le_trans Z_152 sz153_b5
    have ne_b32_b153_b12 : b32 ≠ b153_b12 := Nat.ne_of_lt (Nat.lt_of_lt_of_le A32.lt sz153_b12)
    have ge_b153_b12 : n0 ≤ b153_b12 := Nat.le_trans Z_152 sz153_b12
    have ne_b32_b153_b23 : b32 ≠ b153_b23 := Nat.ne_of_lt (Nat.lt_of_lt_of_le A32.lt sz153_b23)
    have ge_b153_b23 : n0 ≤ b153_b23 := Nat.le_trans Z_152 sz153_b23
    have N153' := Fr.app N0 N153
    have K154 : Steps p.tables e below _ (T153.setTop (mkF m 91 #[.val (.int p0), .val (.int p1), .val (.long q2), .second, .val (.long q3), .second, .val (.int v2_0), .val (.int v7_0), .val (.int v12_0), .val (.int v17_0), .val (.int v22_0), .val (.int v27_0), .unset] [(.ref b32)])) := st153
    have K155 : Steps p.tables e below _ (T153.setTop (mkF m 102 #[.val (.int p0), .val (.int p1), .val (.long q2), .second, .val (.long q3), .second, .val (.int v2_0), .val (.int v7_0), .val (.int v12_0), .val (.int v17_0), .val (.int v22_0), .val (.int v27_0), .val (.ref b32)] [(.long q3), (.int v7_0), (.long q2), (.int v2_0), (.ref b32)])) := K154.trans (by
      show Steps p.tables e below (T153.setTop (mkF m 91 #[.val (.int p0), .val (.int p1), .val (.long q2), .second, .val (.long q3), .second, .val (.int v2_0), .val (.int v7_0), .val (.int v12_0), .val (.int v17_0), .val (.int v22_0), .val (.int v27_0), .unset] [(.ref b32)])) _
      refine XS.astore X153.here hx rfl (hb hby at_91) rfl rfl (l' := #[.val (.int p0), .val (.int p1), .val (.long q2), .second, .val (.long q3), .second, .val (.int v2_0), .val (.int v7_0), .val (.int v12_0), .val (.int v17_0), .val (.int v22_0), .val (.int v27_0), .val (.ref b32)]) rfl ?_
      show Steps p.tables e below (T153.setTop (mkF m 93 #[.val (.int p0), .val (.int p1), .val (.long q2), .second, .val (.long q3), .second, .val (.int v2_0), .val (.int v7_0), .val (.int v12_0), .val (.int v17_0), .val (.int v22_0), .val (.int v27_0), .val (.ref b32)] [])) _
      refine XS.aload X153.here hx rfl (hb hby at_93) rfl rfl ?_
      show Steps p.tables e below (T153.setTop (mkF m 95 #[.val (.int p0), .val (.int p1), .val (.long q2), .second, .val (.long q3), .second, .val (.int v2_0), .val (.int v7_0), .val (.int v12_0), .val (.int v17_0), .val (.int v22_0), .val (.int v27_0), .val (.ref b32)] [(.ref b32)])) _
      refine XS.iload X153.here hx rfl (hb hby at_95) rfl ?_
      show Steps p.tables e below (T153.setTop (mkF m 97 #[.val (.int p0), .val (.int p1), .val (.long q2), .second, .val (.long q3), .second, .val (.int v2_0), .val (.int v7_0), .val (.int v12_0), .val (.int v17_0), .val (.int v22_0), .val (.int v27_0), .val (.ref b32)] [(.int v2_0), (.ref b32)])) _
      refine XS.lloadN X153.here hx rfl (hb hby at_97) rfl ?_
      show Steps p.tables e below (T153.setTop (mkF m 98 #[.val (.int p0), .val (.int p1), .val (.long q2), .second, .val (.long q3), .second, .val (.int v2_0), .val (.int v7_0), .val (.int v12_0), .val (.int v17_0), .val (.int v22_0), .val (.int v27_0), .val (.ref b32)] [(.long q2), (.int v2_0), (.ref b32)])) _
      refine XS.iload X153.here hx rfl (hb hby at_98) rfl ?_
      show Steps p.tables e below (T153.setTop (mkF m 100 #[.val (.int p0), .val (.int p1), .val (.long q2), .second, .val (.long q3), .second, .val (.int v2_0), .val (.int v7_0), .val (.int v12_0), .val (.int v17_0), .val (.int v22_0), .val (.int v27_0), .val (.ref b32)] [(.int v7_0), (.long q2), (.int v2_0), (.ref b32)])) _
      refine XS.lload X153.here hx rfl (hb hby at_100) rfl ?_
      show Steps p.tables e below (T153.setTop (mkF m 102 #[.val (.int p0), .val (.int p1), .val (.long q2), .second, .val (.long q3), .second, .val (.int v2_0), .val (.int v7_0), .val (.int v12_0), .val (.int v17_0), .val (.int v22_0), .val (.int v27_0), .val (.ref b32)] [(.long q3), (.int v7_0), (.long q2), (.int v2_0), (.ref b32)])) _
      exact Steps.refl _)
    have Z_156 : n0 ≤ T153.heap.size := (Nat.le_trans Z_152 Kp153.1)
    obtain ⟨cq157, kq157, q157a, q157b, q157c⟩ := isOf hZ rfl Q153_0
    obtain ⟨_, _, ⟨T157, L157, k157, n157⟩, -, X157, ⟨Lc157, hQ157, l157, y157, z157⟩, st157⟩ := X153.virtualBack hx (y := (⟨"com/example/spanfold/spanfold/RangeList", "add", "(ZJZJ)V"⟩ : MethodName)) (z := (⟨"com/example/spanfold/spanfold/RangeList", "add", "(ZJZJ)V"⟩ : MethodName)) hown (mvT hZ (hw _ (List.mem_of_getElem? (i := 17) rfl))) (mvT hZ (hw _ (List.mem_of_getElem? (i := 18) rfl))) (notFace_of_selects (args := #[]) (mvT hZ (hw _ (List.mem_of_getElem? (i := 20) rfl)))) (mvT hZ (hw _ (List.mem_of_getElem? (i := 20) rfl))) (mvT hZ (hw _ (List.mem_of_getElem? (i := 19) rfl))) (by decide) (backOf (W := 0) (rm3n l Z a0 hw [] b32 v2_0 q2 v7_0 q3 b153_b5 b153_b12 b153_b23 k5_153 k12_153 k23_153 (3 : Int32) (List.replicate 3 (.long (0 : Int64))) (List.replicate 3 (.long (0 : Int64))) (List.replicate 3 (.int (0 : Int32))) (0 : Int32) 0 T153.heap n0 Z_156 Q153_0 Q153_4 Q153_7 Q153_10 Q153_1 Q153_2 Q153_5 Q153_8 ne_b32_b153_b5 ne_b32_b153_b12 ne_b32_b153_b23 ne153_14 ne153_15 ne153_16 ge_b32 ge_b153_b5 ge_b153_b12 ge_b153_b23 (by decide) (by decide) (rfl) (Nat.le_of_ble_eq_true rfl) (Nat.le_of_ble_eq_true rfl) (Nat.le_of_ble_eq_true rfl)) hZ (hw _ (List.mem_of_getElem? (i := 21) rfl)) (hw _ (List.mem_of_getElem? (i := 2) rfl)) (by decide) (by decide)) q157a q157c (g := (mkF m 102 #[.val (.int p0), .val (.int p1), .val (.long q2), .second, .val (.long q3), .second, .val (.int v2_0), .val (.int v7_0), .val (.int v12_0), .val (.int v17_0), .val (.int v22_0), .val (.int v27_0), .val (.ref b32)] [(.long q3), (.int v7_0), (.long q2), (.int v2_0), (.ref b32)])) rfl (by rw [hml]; rfl) K155 (argsL := [(.int v2_0), (.long q2), (.int v7_0), (.long q3)]) (rest := []) (lenOf pd_5 rfl) rfl (by show 2 * 0 + _ ≤ _; exact Nat.le_of_eq rfl) (hb hby at_102) (fun _ _ => ⟨rfl, rfl, (by decide : 4 + 0 ≤ _), (by decide : 13 + 0 ≤ _)⟩)
    dsimp only [Pt.U, Pt.locs, Pt.cells, Pt.slots] at X157 l157 y157 z157 st157 hQ157
    subst l157 y157 z157
    obtain ⟨rfl, N157, Kp157, Q157_0, Q157_1, Q157_2, Q157_3, Q157_4, Q157_5, Q157_6, Q157_7⟩ := hQ157
    have Q157_4f : Fld Z T157.heap b32 "com/example/spanfold/spanfold/RangeList" "size" "I" (.int (1 : Int32)) := Q157_4
    have N157' := Fr.app N153' N157
    have K158 : Steps p.tables e below _ (T157.setTop (mkF m 105 #[.val (.int p0), .val (.int p1), .val (.long q2), .second, .val (.long q3), .second, .val (.int v2_0), .val (.int v7_0), .val (.int v12_0), .val (.int v17_0), .val (.int v22_0), .val (.int v27_0), .val (.ref b32)] [])) := st157
    have K159 : Steps p.tables e below _ (T157.setTop (mkF m 114 #[.val (.int p0), .val (.int p1), .val (.long q2), .second, .val (.long q3), .second, .val (.int v2_0), .val (.int v7_0), .val (.int v12_0), .val (.int v17_0), .val (.int v22_0), .val (.int v27_0), .val (.ref b32)] [(.long q2), (.int v17_0), (.long q3), (.int v12_0), (.ref b32)])) := K158.trans (by
      show Steps p.tables e below (T157.setTop (mkF m 105 #[.val (.int p0), .val (.int p1), .val (.long q2), .second, .val (.long q3), .second, .val (.int v2_0), .val (.int v7_0), .val (.int v12_0), .val (.int v17_0), .val (.int v22_0), .val (.int v27_0), .val (.ref b32)] [])) _
      refine XS.aload X157.here hx rfl (hb hby at_105) rfl rfl ?_
      show Steps p.tables e below (T157.setTop (mkF m 107 #[.val (.int p0), .val (.int p1), .val (.long q2), .second, .val (.long q3), .second, .val (.int v2_0), .val (.int v7_0), .val (.int v12_0), .val (.int v17_0), .val (.int v22_0), .val (.int v27_0), .val (.ref b32)] [(.ref b32)])) _
      refine XS.iload X157.here hx rfl (hb hby at_107) rfl ?_
      show Steps p.tables e below (T157.setTop (mkF m 109 #[.val (.int p0), .val (.int p1), .val (.long q2), .second, .val (.long q3), .second, .val (.int v2_0), .val (.int v7_0), .val (.int v12_0), .val (.int v17_0), .val (.int v22_0), .val (.int v27_0), .val (.ref b32)] [(.int v12_0), (.ref b32)])) _
      refine XS.lload X157.here hx rfl (hb hby at_109) rfl ?_
      show Steps p.tables e below (T157.setTop (mkF m 111 #[.val (.int p0), .val (.int p1), .val (.long q2), .second, .val (.long q3), .second, .val (.int v2_0), .val (.int v7_0), .val (.int v12_0), .val (.int v17_0), .val (.int v22_0), .val (.int v27_0), .val (.ref b32)] [(.long q3), (.int v12_0), (.ref b32)])) _
      refine XS.iload X157.here hx rfl (hb hby at_111) rfl ?_
      show Steps p.tables e below (T157.setTop (mkF m 113 #[.val (.int p0), .val (.int p1), .val (.long q2), .second, .val (.long q3), .second, .val (.int v2_0), .val (.int v7_0), .val (.int v12_0), .val (.int v17_0), .val (.int v22_0), .val (.int v27_0), .val (.ref b32)] [(.int v17_0), (.long q3), (.int v12_0), (.ref b32)])) _
      refine XS.lloadN X157.here hx rfl (hb hby at_113) rfl ?_
      show Steps p.tables e below (T157.setTop (mkF m 114 #[.val (.int p0), .val (.int p1), .val (.long q2), .second, .val (.long q3), .second, .val (.int v2_0), .val (.int v7_0), .val (.int v12_0), .val (.int v17_0), .val (.int v22_0), .val (.int v27_0), .val (.ref b32)] [(.long q2), (.int v17_0), (.long q3), (.int v12_0), (.ref b32)])) _
      exact Steps.refl _)
    have Z_160 : n0 ≤ T157.heap.size := (Nat.le_trans Z_156 Kp157.1)
    obtain ⟨cq161, kq161, q161a, q161b, q161c⟩ := isOf hZ rfl Q157_0
    obtain ⟨_, _, ⟨T161, L161, k161, n161⟩, -, X161, ⟨Lc161, hQ161, l161, y161, z161⟩, st161⟩ := X157.virtualBack hx (y := (⟨"com/example/spanfold/spanfold/RangeList", "add", "(ZJZJ)V"⟩ : MethodName)) (z := (⟨"com/example/spanfold/spanfold/RangeList", "add", "(ZJZJ)V"⟩ : MethodName)) hown (mvT hZ (hw _ (List.mem_of_getElem? (i := 17) rfl))) (mvT hZ (hw _ (List.mem_of_getElem? (i := 18) rfl))) (notFace_of_selects (args := #[]) (mvT hZ (hw _ (List.mem_of_getElem? (i := 20) rfl)))) (mvT hZ (hw _ (List.mem_of_getElem? (i := 20) rfl))) (mvT hZ (hw _ (List.mem_of_getElem? (i := 19) rfl))) (by decide) (backOf (W := 0) (rm3n l Z a0 hw [] b32 v12_0 q3 v17_0 q2 b153_b5 b153_b12 b153_b23 k5_153 k12_153 k23_153 (3 : Int32) ((List.replicate 3 (.long (0 : Int64))).set 0 (.long (if v2_0 = (0 : Int32) then (0 : Int64) else q2))) ((List.replicate 3 (.long (0 : Int64))).set 0 (.long (if v7_0 = (0 : Int32) then (0 : Int64) else q3))) ((List.replicate 3 (.int (0 : Int32))).set 0 (.int ((((if v2_0 = (0 : Int32) then (0 : Int32) else (1 : Int32)) ||| (if v7_0 = (0 : Int32) then (0 : Int32) else (2 : Int32))).toInt8.toInt32).toInt8.toInt32))) (1 : Int32) 1 T157.heap n0 Z_160 Q157_0 Q157_1 Q157_2 Q157_3 Q157_4f Q157_5 Q157_6 Q157_7 ne_b32_b153_b5 ne_b32_b153_b12 ne_b32_b153_b23 ne153_14 ne153_15 ne153_16 ge_b32 ge_b153_b5 ge_b153_b12 ge_b153_b23 (by decide) (by decide) (rfl) (Nat.le_of_ble_eq_true rfl) (Nat.le_of_ble_eq_true rfl) (Nat.le_of_ble_eq_true rfl)) hZ (hw _ (List.mem_of_getElem? (i := 21) rfl)) (hw _ (List.mem_of_getElem? (i := 2) rfl)) (by decide) (by decide)) q161a q161c (g := (mkF m 114 #[.val (.int p0), .val (.int p1), .val (.long q2), .second, .val (.long q3), .second, .val (.int v2_0), .val (.int v7_0), .val (.int v12_0), .val (.int v17_0), .val (.int v22_0), .val (.int v27_0), .val (.ref b32)] [(.long q2), (.int v17_0), (.long q3), (.int v12_0), (.ref b32)])) rfl (by rw [hml]; rfl) K159 (argsL := [(.int v12_0), (.long q3), (.int v17_0), (.long q2)]) (rest := []) (lenOf pd_5 rfl) rfl (by show 2 * 0 + _ ≤ _; exact Nat.le_of_eq rfl) (hb hby at_114) (fun _ _ => ⟨rfl, rfl, (by decide : 4 + 0 ≤ _), (by decide : 13 + 0 ≤ _)⟩)
    dsimp only [Pt.U, Pt.locs, Pt.cells, Pt.slots] at X161 l161 y161 z161 st161 hQ161
    subst l161 y161 z161
    obtain ⟨rfl, N161, Kp161, Q161_0, Q161_1, Q161_2, Q161_3, Q161_4, Q161_5, Q161_6, Q161_7⟩ := hQ161
    have Q161_4f : Fld Z T161.heap b32 "com/example/spanfold/spanfold/RangeList" "size" "I" (.int (2 : Int32)) := Q161_4
    have N161' := Fr.app N157' N161
    have K162 : Steps p.tables e below _ (T161.setTop (mkF m 117 #[.val (.int p0), .val (.int p1), .val (.long q2), .second, .val (.long q3), .second, .val (.int v2_0), .val (.int v7_0), .val (.int v12_0), .val (.int v17_0), .val (.int v22_0), .val (.int v27_0), .val (.ref b32)] [])) := st161
    have K163 : Steps p.tables e below _ (T161.setTop (mkF m 131 #[.val (.int p0), .val (.int p1), .val (.long q2), .second, .val (.long q3), .second, .val (.int v2_0), .val (.int v7_0), .val (.int v12_0), .val (.int v17_0), .val (.int v22_0), .val (.int v27_0), .val (.ref b32)] [(.long (q2 + q3)), (.int v27_0), (.long (q2 ^^^ q3)), (.int v22_0), (.ref b32)])) := K162.trans (by
      show Steps p.tables e below (T161.setTop (mkF m 117 #[.val (.int p0), .val (.int p1), .val (.long q2), .second, .val (.long q3), .second, .val (.int v2_0), .val (.int v7_0), .val (.int v12_0), .val (.int v17_0), .val (.int v22_0), .val (.int v27_0), .val (.ref b32)] [])) _
      refine XS.aload X161.here hx rfl (hb hby at_117) rfl rfl ?_
      show Steps p.tables e below (T161.setTop (mkF m 119 #[.val (.int p0), .val (.int p1), .val (.long q2), .second, .val (.long q3), .second, .val (.int v2_0), .val (.int v7_0), .val (.int v12_0), .val (.int v17_0), .val (.int v22_0), .val (.int v27_0), .val (.ref b32)] [(.ref b32)])) _
      refine XS.iload X161.here hx rfl (hb hby at_119) rfl ?_
      show Steps p.tables e below (T161.setTop (mkF m 121 #[.val (.int p0), .val (.int p1), .val (.long q2), .second, .val (.long q3), .second, .val (.int v2_0), .val (.int v7_0), .val (.int v12_0), .val (.int v17_0), .val (.int v22_0), .val (.int v27_0), .val (.ref b32)] [(.int v22_0), (.ref b32)])) _
      refine XS.lloadN X161.here hx rfl (hb hby at_121) rfl ?_
      show Steps p.tables e below (T161.setTop (mkF m 122 #[.val (.int p0), .val (.int p1), .val (.long q2), .second, .val (.long q3), .second, .val (.int v2_0), .val (.int v7_0), .val (.int v12_0), .val (.int v17_0), .val (.int v22_0), .val (.int v27_0), .val (.ref b32)] [(.long q2), (.int v22_0), (.ref b32)])) _
      refine XS.lload X161.here hx rfl (hb hby at_122) rfl ?_
      show Steps p.tables e below (T161.setTop (mkF m 124 #[.val (.int p0), .val (.int p1), .val (.long q2), .second, .val (.long q3), .second, .val (.int v2_0), .val (.int v7_0), .val (.int v12_0), .val (.int v17_0), .val (.int v22_0), .val (.int v27_0), .val (.ref b32)] [(.long q3), (.long q2), (.int v22_0), (.ref b32)])) _
      refine XS.lxor X161.here hx rfl (hb hby at_124) rfl ?_
      show Steps p.tables e below (T161.setTop (mkF m 125 #[.val (.int p0), .val (.int p1), .val (.long q2), .second, .val (.long q3), .second, .val (.int v2_0), .val (.int v7_0), .val (.int v12_0), .val (.int v17_0), .val (.int v22_0), .val (.int v27_0), .val (.ref b32)] [(.long (q2 ^^^ q3)), (.int v22_0), (.ref b32)])) _
      refine XS.iload X161.here hx rfl (hb hby at_125) rfl ?_
      show Steps p.tables e below (T161.setTop (mkF m 127 #[.val (.int p0), .val (.int p1), .val (.long q2), .second, .val (.long q3), .second, .val (.int v2_0), .val (.int v7_0), .val (.int v12_0), .val (.int v17_0), .val (.int v22_0), .val (.int v27_0), .val (.ref b32)] [(.int v27_0), (.long (q2 ^^^ q3)), (.int v22_0), (.ref b32)])) _
      refine XS.lloadN X161.here hx rfl (hb hby at_127) rfl ?_
      show Steps p.tables e below (T161.setTop (mkF m 128 #[.val (.int p0), .val (.int p1), .val (.long q2), .second, .val (.long q3), .second, .val (.int v2_0), .val (.int v7_0), .val (.int v12_0), .val (.int v17_0), .val (.int v22_0), .val (.int v27_0), .val (.ref b32)] [(.long q2), (.int v27_0), (.long (q2 ^^^ q3)), (.int v22_0), (.ref b32)])) _
      refine XS.lload X161.here hx rfl (hb hby at_128) rfl ?_
      show Steps p.tables e below (T161.setTop (mkF m 130 #[.val (.int p0), .val (.int p1), .val (.long q2), .second, .val (.long q3), .second, .val (.int v2_0), .val (.int v7_0), .val (.int v12_0), .val (.int v17_0), .val (.int v22_0), .val (.int v27_0), .val (.ref b32)] [(.long q3), (.long q2), (.int v27_0), (.long (q2 ^^^ q3)), (.int v22_0), (.ref b32)])) _
      refine XS.ladd X161.here hx rfl (hb hby at_130) rfl ?_
      show Steps p.tables e below (T161.setTop (mkF m 131 #[.val (.int p0), .val (.int p1), .val (.long q2), .second, .val (.long q3), .second, .val (.int v2_0), .val (.int v7_0), .val (.int v12_0), .val (.int v17_0), .val (.int v22_0), .val (.int v27_0), .val (.ref b32)] [(.long (q2 + q3)), (.int v27_0), (.long (q2 ^^^ q3)), (.int v22_0), (.ref b32)])) _
      exact Steps.refl _)
    have Z_164 : n0 ≤ T161.heap.size := (Nat.le_trans Z_160 Kp161.1)
    obtain ⟨cq165, kq165, q165a, q165b, q165c⟩ := isOf hZ rfl Q161_0
    obtain ⟨_, _, ⟨T165, L165, k165, n165⟩, -, X165, ⟨Lc165, hQ165, l165, y165, z165⟩, st165⟩ := X161.virtualBack hx (y := (⟨"com/example/spanfold/spanfold/RangeList", "add", "(ZJZJ)V"⟩ : MethodName)) (z := (⟨"com/example/spanfold/spanfold/RangeList", "add", "(ZJZJ)V"⟩ : MethodName)) hown (mvT hZ (hw _ (List.mem_of_getElem? (i := 17) rfl))) (mvT hZ (hw _ (List.mem_of_getElem? (i := 18) rfl))) (notFace_of_selects (args := #[]) (mvT hZ (hw _ (List.mem_of_getElem? (i := 20) rfl)))) (mvT hZ (hw _ (List.mem_of_getElem? (i := 20) rfl))) (mvT hZ (hw _ (List.mem_of_getElem? (i := 19) rfl))) (by decide) (backOf (W := 0) (rm3n l Z a0 hw [] b32 v22_0 (q2 ^^^ q3) v27_0 (q2 + q3) b153_b5 b153_b12 b153_b23 k5_153 k12_153 k23_153 (3 : Int32) (((List.replicate 3 (.long (0 : Int64))).set 0 (.long (if v2_0 = (0 : Int32) then (0 : Int64) else q2))).set 1 (.long (if v12_0 = (0 : Int32) then (0 : Int64) else q3))) (((List.replicate 3 (.long (0 : Int64))).set 0 (.long (if v7_0 = (0 : Int32) then (0 : Int64) else q3))).set 1 (.long (if v17_0 = (0 : Int32) then (0 : Int64) else q2))) (((List.replicate 3 (.int (0 : Int32))).set 0 (.int ((((if v2_0 = (0 : Int32) then (0 : Int32) else (1 : Int32)) ||| (if v7_0 = (0 : Int32) then (0 : Int32) else (2 : Int32))).toInt8.toInt32).toInt8.toInt32))).set 1 (.int ((((if v12_0 = (0 : Int32) then (0 : Int32) else (1 : Int32)) ||| (if v17_0 = (0 : Int32) then (0 : Int32) else (2 : Int32))).toInt8.toInt32).toInt8.toInt32))) (2 : Int32) 2 T161.heap n0 Z_164 Q161_0 Q161_1 Q161_2 Q161_3 Q161_4f Q161_5 Q161_6 Q161_7 ne_b32_b153_b5 ne_b32_b153_b12 ne_b32_b153_b23 ne153_14 ne153_15 ne153_16 ge_b32 ge_b153_b5 ge_b153_b12 ge_b153_b23 (by decide) (by decide) (rfl) (Nat.le_of_ble_eq_true rfl) (Nat.le_of_ble_eq_true rfl) (Nat.le_of_ble_eq_true rfl)) hZ (hw _ (List.mem_of_getElem? (i := 21) rfl)) (hw _ (List.mem_of_getElem? (i := 2) rfl)) (by decide) (by decide)) q165a q165c (g := (mkF m 131 #[.val (.int p0), .val (.int p1), .val (.long q2), .second, .val (.long q3), .second, .val (.int v2_0), .val (.int v7_0), .val (.int v12_0), .val (.int v17_0), .val (.int v22_0), .val (.int v27_0), .val (.ref b32)] [(.long (q2 + q3)), (.int v27_0), (.long (q2 ^^^ q3)), (.int v22_0), (.ref b32)])) rfl (by rw [hml]; rfl) K163 (argsL := [(.int v22_0), (.long (q2 ^^^ q3)), (.int v27_0), (.long (q2 + q3))]) (rest := []) (lenOf pd_5 rfl) rfl (by show 2 * 0 + _ ≤ _; exact Nat.le_of_eq rfl) (hb hby at_131) (fun _ _ => ⟨rfl, rfl, (by decide : 4 + 0 ≤ _), (by decide : 13 + 0 ≤ _)⟩)
    dsimp only [Pt.U, Pt.locs, Pt.cells, Pt.slots] at X165 l165 y165 z165 st165 hQ165
    subst l165 y165 z165
    obtain ⟨rfl, N165, Kp165, Q165_0, Q165_1, Q165_2, Q165_3, Q165_4, Q165_5, Q165_6, Q165_7⟩ := hQ165
    have Q165_4f : Fld Z T165.heap b32 "com/example/spanfold/spanfold/RangeList" "size" "I" (.int (3 : Int32)) := Q165_4
    have N165' := Fr.app N161' N165
    have K166 : Steps p.tables e below _ (T165.setTop (mkF m 134 #[.val (.int p0), .val (.int p1), .val (.long q2), .second, .val (.long q3), .second, .val (.int v2_0), .val (.int v7_0), .val (.int v12_0), .val (.int v17_0), .val (.int v22_0), .val (.int v27_0), .val (.ref b32)] [])) := st165
    have K167 : Steps p.tables e below _ (T165.setTop (mkF m 137 #[.val (.int p0), .val (.int p1), .val (.long q2), .second, .val (.long q3), .second, .val (.int v2_0), .val (.int v7_0), .val (.int v12_0), .val (.int v17_0), .val (.int v22_0), .val (.int v27_0), .val (.ref b32)] [(.int (0 : Int32)), (.ref b32)])) := K166.trans (by
      show Steps p.tables e below (T165.setTop (mkF m 134 #[.val (.int p0), .val (.int p1), .val (.long q2), .second, .val (.long q3), .second, .val (.int v2_0), .val (.int v7_0), .val (.int v12_0), .val (.int v17_0), .val (.int v22_0), .val (.int v27_0), .val (.ref b32)] [])) _
      refine XS.aload X165.here hx rfl (hb hby at_134) rfl rfl ?_
      show Steps p.tables e below (T165.setTop (mkF m 136 #[.val (.int p0), .val (.int p1), .val (.long q2), .second, .val (.long q3), .second, .val (.int v2_0), .val (.int v7_0), .val (.int v12_0), .val (.int v17_0), .val (.int v22_0), .val (.int v27_0), .val (.ref b32)] [(.ref b32)])) _
      refine XS.iconst X165.here hx rfl (hb hby at_136) ?_
      show Steps p.tables e below (T165.setTop (mkF m 137 #[.val (.int p0), .val (.int p1), .val (.long q2), .second, .val (.long q3), .second, .val (.int v2_0), .val (.int v7_0), .val (.int v12_0), .val (.int v17_0), .val (.int v22_0), .val (.int v27_0), .val (.ref b32)] [(.int (0 : Int32)), (.ref b32)])) _
      exact Steps.refl _)
    have Z_168 : n0 ≤ T165.heap.size := (Nat.le_trans Z_164 Kp165.1)
    obtain ⟨cq169, kq169, q169a, q169b, q169c⟩ := isOf hZ rfl Q165_0
    obtain ⟨_, _, ⟨T169, L169, k169, n169⟩, -, X169, ⟨Lc169, hQ169, l169, y169, z169⟩, st169⟩ := X165.virtualBack hx (y := (⟨"com/example/spanfold/spanfold/RangeList", "hasFrom", "(I)Z"⟩ : MethodName)) (z := (⟨"com/example/spanfold/spanfold/RangeList", "hasFrom", "(I)Z"⟩ : MethodName)) hown (mvT hZ (hw _ (List.mem_of_getElem? (i := 42) rfl))) (mvT hZ (hw _ (List.mem_of_getElem? (i := 43) rfl))) (notFace_of_selects (args := #[]) (mvT hZ (hw _ (List.mem_of_getElem? (i := 45) rfl)))) (mvT hZ (hw _ (List.mem_of_getElem? (i := 45) rfl))) (mvT hZ (hw _ (List.mem_of_getElem? (i := 44) rfl))) (by decide) (backOf (W := 0) (rm8 l Z a0 hw [] b32 (0 : Int32) b153_b23 k23_153 (3 : Int32) ((((List.replicate 3 (.int (0 : Int32))).set 0 (.int ((((if v2_0 = (0 : Int32) then (0 : Int32) else (1 : Int32)) ||| (if v7_0 = (0 : Int32) then (0 : Int32) else (2 : Int32))).toInt8.toInt32).toInt8.toInt32))).set 1 (.int ((((if v12_0 = (0 : Int32) then (0 : Int32) else (1 : Int32)) ||| (if v17_0 = (0 : Int32) then (0 : Int32) else (2 : Int32))).toInt8.toInt32).toInt8.toInt32))).set 2 (.int ((((if v22_0 = (0 : Int32) then (0 : Int32) else (1 : Int32)) ||| (if v27_0 = (0 : Int32) then (0 : Int32) else (2 : Int32))).toInt8.toInt32).toInt8.toInt32))) ((((if v2_0 = (0 : Int32) then (0 : Int32) else (1 : Int32)) ||| (if v7_0 = (0 : Int32) then (0 : Int32) else (2 : Int32))).toInt8.toInt32).toInt8.toInt32) (3 : Int32) T165.heap n0 Z_168 Q165_3 Q165_4f Q165_7 (by decide) (by decide) (by decide) (rfl)) hZ (hw _ (List.mem_of_getElem? (i := 46) rfl)) (hw _ (List.mem_of_getElem? (i := 2) rfl)) (by decide) (by decide)) q169a q169c (g := (mkF m 137 #[.val (.int p0), .val (.int p1), .val (.long q2), .second, .val (.long q3), .second, .val (.int v2_0), .val (.int v7_0), .val (.int v12_0), .val (.int v17_0), .val (.int v22_0), .val (.int v27_0), .val (.ref b32)] [(.int (0 : Int32)), (.ref b32)])) rfl (by rw [hml]; rfl) K167 (argsL := [(.int (0 : Int32))]) (rest := []) (lenOf pd_6 rfl) rfl (by show 2 * 0 + _ ≤ _; exact Nat.le_of_eq rfl) (hb hby at_137) (fun _ _ => ⟨rfl, rfl, (by decide : 4 + 0 ≤ _), (by decide : 13 + 0 ≤ _)⟩)
    dsimp only [Pt.U, Pt.locs, Pt.cells, Pt.slots] at X169 l169 y169 z169 st169 hQ169
    subst l169 y169 z169
    obtain ⟨rfl, N169, eh169⟩ := hQ169
    have N169' := Fr.app N165' N169
    have K171 : Steps p.tables e below _ (T169.setTop (mkF m 140 #[.val (.int p0), .val (.int p1), .val (.long q2), .second, .val (.long q3), .second, .val (.int v2_0), .val (.int v7_0), .val (.int v12_0), .val (.int v17_0), .val (.int v22_0), .val (.int v27_0), .val (.ref b32)] [(.int ((if (((((if v2_0 = (0 : Int32) then (0 : Int32) else (1 : Int32)) ||| (if v7_0 = (0 : Int32) then (0 : Int32) else (2 : Int32))).toInt8.toInt32).toInt8.toInt32) &&& (1 : Int32)) = (0 : Int32) then (0 : Int32) else (1 : Int32)) &&& 1))])) := st169
    obtain ⟨r170, hr170⟩ : ∃ z : Int32, ((if (((((if v2_0 = (0 : Int32) then (0 : Int32) else (1 : Int32)) ||| (if v7_0 = (0 : Int32) then (0 : Int32) else (2 : Int32))).toInt8.toInt32).toInt8.toInt32) &&& (1 : Int32)) = (0 : Int32) then (0 : Int32) else (1 : Int32)) &&& 1) = z := ⟨_, rfl⟩
    rw [hr170] at K171
    have K172 : Steps p.tables e below _ (T169.setTop (mkF m 142 #[.val (.int p0), .val (.int p1), .val (.long q2), .second, .val (.long q3), .second, .val (.int v2_0), .val (.int v7_0), .val (.int v12_0), .val (.int v17_0), .val (.int v22_0), .val (.int v27_0), .val (.ref b32)] [(.int v2_0), (.int r170)])) := K171.trans (by
      show Steps p.tables e below (T169.setTop (mkF m 140 #[.val (.int p0), .val (.int p1), .val (.long q2), .second, .val (.long q3), .second, .val (.int v2_0), .val (.int v7_0), .val (.int v12_0), .val (.int v17_0), .val (.int v22_0), .val (.int v27_0), .val (.ref b32)] [(.int r170)])) _
      refine XS.iload X169.here hx rfl (hb hby at_140) rfl ?_
      show Steps p.tables e below (T169.setTop (mkF m 142 #[.val (.int p0), .val (.int p1), .val (.long q2), .second, .val (.long q3), .second, .val (.int v2_0), .val (.int v7_0), .val (.int v12_0), .val (.int v17_0), .val (.int v22_0), .val (.int v27_0), .val (.ref b32)] [(.int v2_0), (.int r170)])) _
      exact Steps.refl _)
    obtain ⟨T173, L173, v173_0, X173, e173, N173, hv173_0, S173⟩ : ∃ (T173 : State) (L173 : List Loc) (v173_0 : Int32), Stand p l e room_1 s m #[(.int p0), (.int p1), (.long q2), (.long q3)] below meth c T173 L173 4 13 ∧ T173.heap = T165.heap ∧ Fr n0 L173 ∧ (if r170 = v2_0 then (if ((if (((((if v12_0 = (0 : Int32) then (0 : Int32) else (1 : Int32)) ||| (if v17_0 = (0 : Int32) then (0 : Int32) else (2 : Int32))).toInt8.toInt32).toInt8.toInt32) &&& (1 : Int32)) = (0 : Int32) then (0 : Int32) else (1 : Int32)) &&& 1) = v12_0 then (if ((if (((((if v22_0 = (0 : Int32) then (0 : Int32) else (1 : Int32)) ||| (if v27_0 = (0 : Int32) then (0 : Int32) else (2 : Int32))).toInt8.toInt32).toInt8.toInt32) &&& (1 : Int32)) = (0 : Int32) then (0 : Int32) else (1 : Int32)) &&& 1) = v22_0 then (1 : Int32) else (0 : Int32)) else (0 : Int32)) else (0 : Int32)) = v173_0 ∧ Steps p.tables e below (T169.setTop (mkF m 142 #[.val (.int p0), .val (.int p1), .val (.long q2), .second, .val (.long q3), .second, .val (.int v2_0), .val (.int v7_0), .val (.int v12_0), .val (.int v17_0), .val (.int v22_0), .val (.int v27_0), .val (.ref b32)] [(.int v2_0), (.int r170)])) (T173.setTop (mkF m 172 #[.val (.int p0), .val (.int p1), .val (.long q2), .second, .val (.long q3), .second, .val (.int v2_0), .val (.int v7_0), .val (.int v12_0), .val (.int v17_0), .val (.int v22_0), .val (.int v27_0), .val (.ref b32)] [(.int v173_0)])) := by
      have R173 : Steps p.tables e below (T169.setTop (mkF m 142 #[.val (.int p0), .val (.int p1), .val (.long q2), .second, .val (.long q3), .second, .val (.int v2_0), .val (.int v7_0), .val (.int v12_0), .val (.int v17_0), .val (.int v22_0), .val (.int v27_0), .val (.ref b32)] [(.int v2_0), (.int r170)])) (T169.setTop (mkF m 142 #[.val (.int p0), .val (.int p1), .val (.long q2), .second, .val (.long q3), .second, .val (.int v2_0), .val (.int v7_0), .val (.int v12_0), .val (.int v17_0), .val (.int v22_0), .val (.int v27_0), .val (.ref b32)] [(.int v2_0), (.int r170)])) := Steps.refl _
      by_cases hc142 : r170 = v2_0
      · have K174 : Steps p.tables e below _ (T169.setTop (mkF m 148 #[.val (.int p0), .val (.int p1), .val (.long q2), .second, .val (.long q3), .second, .val (.int v2_0), .val (.int v7_0), .val (.int v12_0), .val (.int v17_0), .val (.int v22_0), .val (.int v27_0), .val (.ref b32)] [(.int (1 : Int32)), (.ref b32)])) := R173.trans (by
          show Steps p.tables e below (T169.setTop (mkF m 142 #[.val (.int p0), .val (.int p1), .val (.long q2), .second, .val (.long q3), .second, .val (.int v2_0), .val (.int v7_0), .val (.int v12_0), .val (.int v17_0), .val (.int v22_0), .val (.int v27_0), .val (.ref b32)] [(.int v2_0), (.int r170)])) _
          refine XS.icmpNo X169.here hx rfl (hb hby at_142) rfl (teq hc142).2 ?_
          show Steps p.tables e below (T169.setTop (mkF m 145 #[.val (.int p0), .val (.int p1), .val (.long q2), .second, .val (.long q3), .second, .val (.int v2_0), .val (.int v7_0), .val (.int v12_0), .val (.int v17_0), .val (.int v22_0), .val (.int v27_0), .val (.ref b32)] [])) _
          refine XS.aload X169.here hx rfl (hb hby at_145) rfl rfl ?_
          show Steps p.tables e below (T169.setTop (mkF m 147 #[.val (.int p0), .val (.int p1), .val (.long q2), .second, .val (.long q3), .second, .val (.int v2_0), .val (.int v7_0), .val (.int v12_0), .val (.int v17_0), .val (.int v22_0), .val (.int v27_0), .val (.ref b32)] [(.ref b32)])) _
          refine XS.iconst X169.here hx rfl (hb hby at_147) ?_
          show Steps p.tables e below (T169.setTop (mkF m 148 #[.val (.int p0), .val (.int p1), .val (.long q2), .second, .val (.long q3), .second, .val (.int v2_0), .val (.int v7_0), .val (.int v12_0), .val (.int v17_0), .val (.int v22_0), .val (.int v27_0), .val (.ref b32)] [(.int (1 : Int32)), (.ref b32)])) _
          exact Steps.refl _)
        obtain ⟨cq175, kq175, q175a, q175b, q175c⟩ := isOf hZ eh169 Q165_0
        obtain ⟨_, _, ⟨T175, L175, k175, n175⟩, -, X175, ⟨Lc175, hQ175, l175, y175, z175⟩, st175⟩ := X169.virtualBack hx (y := (⟨"com/example/spanfold/spanfold/RangeList", "hasFrom", "(I)Z"⟩ : MethodName)) (z := (⟨"com/example/spanfold/spanfold/RangeList", "hasFrom", "(I)Z"⟩ : MethodName)) hown (mvT hZ (hw _ (List.mem_of_getElem? (i := 42) rfl))) (mvT hZ (hw _ (List.mem_of_getElem? (i := 43) rfl))) (notFace_of_selects (args := #[]) (mvT hZ (hw _ (List.mem_of_getElem? (i := 45) rfl)))) (mvT hZ (hw _ (List.mem_of_getElem? (i := 45) rfl))) (mvT hZ (hw _ (List.mem_of_getElem? (i := 44) rfl))) (by decide) (backOf (W := 0) (rm8 l Z a0 hw [] b32 (1 : Int32) b153_b23 k23_153 (3 : Int32) ((((List.replicate 3 (.int (0 : Int32))).set 0 (.int ((((if v2_0 = (0 : Int32) then (0 : Int32) else (1 : Int32)) ||| (if v7_0 = (0 : Int32) then (0 : Int32) else (2 : Int32))).toInt8.toInt32).toInt8.toInt32))).set 1 (.int ((((if v12_0 = (0 : Int32) then (0 : Int32) else (1 : Int32)) ||| (if v17_0 = (0 : Int32) then (0 : Int32) else (2 : Int32))).toInt8.toInt32).toInt8.toInt32))).set 2 (.int ((((if v22_0 = (0 : Int32) then (0 : Int32) else (1 : Int32)) ||| (if v27_0 = (0 : Int32) then (0 : Int32) else (2 : Int32))).toInt8.toInt32).toInt8.toInt32))) ((((if v12_0 = (0 : Int32) then (0 : Int32) else (1 : Int32)) ||| (if v17_0 = (0 : Int32) then (0 : Int32) else (2 : Int32))).toInt8.toInt32).toInt8.toInt32) (3 : Int32) T165.heap n0 Z_168 Q165_3 Q165_4f Q165_7 (by decide) (by decide) (by decide) (rfl)) hZ (hw _ (List.mem_of_getElem? (i := 46) rfl)) (hw _ (List.mem_of_getElem? (i := 2) rfl)) (by decide) (by decide)) q175a q175c (g := (mkF m 148 #[.val (.int p0), .val (.int p1), .val (.long q2), .second, .val (.long q3), .second, .val (.int v2_0), .val (.int v7_0), .val (.int v12_0), .val (.int v17_0), .val (.int v22_0), .val (.int v27_0), .val (.ref b32)] [(.int (1 : Int32)), (.ref b32)])) rfl (by rw [hml]; rfl) K174 (argsL := [(.int (1 : Int32))]) (rest := []) (lenOf pd_6 rfl) rfl (by show 2 * 0 + _ ≤ _; exact Nat.le_of_eq rfl) (hb hby at_148) (fun _ _ => ⟨rfl, eh169, (by decide : 4 + 0 ≤ _), (by decide : 13 + 0 ≤ _)⟩)
        dsimp only [Pt.U, Pt.locs, Pt.cells, Pt.slots] at X175 l175 y175 z175 st175 hQ175
        subst l175 y175 z175
        obtain ⟨rfl, N175, eh175⟩ := hQ175
        have N175' := Fr.app N169' N175
        have K177 : Steps p.tables e below _ (T175.setTop (mkF m 151 #[.val (.int p0), .val (.int p1), .val (.long q2), .second, .val (.long q3), .second, .val (.int v2_0), .val (.int v7_0), .val (.int v12_0), .val (.int v17_0), .val (.int v22_0), .val (.int v27_0), .val (.ref b32)] [(.int ((if (((((if v12_0 = (0 : Int32) then (0 : Int32) else (1 : Int32)) ||| (if v17_0 = (0 : Int32) then (0 : Int32) else (2 : Int32))).toInt8.toInt32).toInt8.toInt32) &&& (1 : Int32)) = (0 : Int32) then (0 : Int32) else (1 : Int32)) &&& 1))])) := st175
        obtain ⟨r176, hr176⟩ : ∃ z : Int32, ((if (((((if v12_0 = (0 : Int32) then (0 : Int32) else (1 : Int32)) ||| (if v17_0 = (0 : Int32) then (0 : Int32) else (2 : Int32))).toInt8.toInt32).toInt8.toInt32) &&& (1 : Int32)) = (0 : Int32) then (0 : Int32) else (1 : Int32)) &&& 1) = z := ⟨_, rfl⟩
        rw [hr176] at K177
        have K178 : Steps p.tables e below _ (T175.setTop (mkF m 153 #[.val (.int p0), .val (.int p1), .val (.long q2), .second, .val (.long q3), .second, .val (.int v2_0), .val (.int v7_0), .val (.int v12_0), .val (.int v17_0), .val (.int v22_0), .val (.int v27_0), .val (.ref b32)] [(.int v12_0), (.int r176)])) := K177.trans (by
          show Steps p.tables e below (T175.setTop (mkF m 151 #[.val (.int p0), .val (.int p1), .val (.long q2), .second, .val (.long q3), .second, .val (.int v2_0), .val (.int v7_0), .val (.int v12_0), .val (.int v17_0), .val (.int v22_0), .val (.int v27_0), .val (.ref b32)] [(.int r176)])) _
          refine XS.iload X175.here hx rfl (hb hby at_151) rfl ?_
          show Steps p.tables e below (T175.setTop (mkF m 153 #[.val (.int p0), .val (.int p1), .val (.long q2), .second, .val (.long q3), .second, .val (.int v2_0), .val (.int v7_0), .val (.int v12_0), .val (.int v17_0), .val (.int v22_0), .val (.int v27_0), .val (.ref b32)] [(.int v12_0), (.int r176)])) _
          exact Steps.refl _)
        by_cases hc153 : r176 = v12_0
        · have K179 : Steps p.tables e below _ (T175.setTop (mkF m 159 #[.val (.int p0), .val (.int p1), .val (.long q2), .second, .val (.long q3), .second, .val (.int v2_0), .val (.int v7_0), .val (.int v12_0), .val (.int v17_0), .val (.int v22_0), .val (.int v27_0), .val (.ref b32)] [(.int (2 : Int32)), (.ref b32)])) := K178.trans (by
            show Steps p.tables e below (T175.setTop (mkF m 153 #[.val (.int p0), .val (.int p1), .val (.long q2), .second, .val (.long q3), .second, .val (.int v2_0), .val (.int v7_0), .val (.int v12_0), .val (.int v17_0), .val (.int v22_0), .val (.int v27_0), .val (.ref b32)] [(.int v12_0), (.int r176)])) _
            refine XS.icmpNo X175.here hx rfl (hb hby at_153) rfl (teq hc153).2 ?_
            show Steps p.tables e below (T175.setTop (mkF m 156 #[.val (.int p0), .val (.int p1), .val (.long q2), .second, .val (.long q3), .second, .val (.int v2_0), .val (.int v7_0), .val (.int v12_0), .val (.int v17_0), .val (.int v22_0), .val (.int v27_0), .val (.ref b32)] [])) _
            refine XS.aload X175.here hx rfl (hb hby at_156) rfl rfl ?_
            show Steps p.tables e below (T175.setTop (mkF m 158 #[.val (.int p0), .val (.int p1), .val (.long q2), .second, .val (.long q3), .second, .val (.int v2_0), .val (.int v7_0), .val (.int v12_0), .val (.int v17_0), .val (.int v22_0), .val (.int v27_0), .val (.ref b32)] [(.ref b32)])) _
            refine XS.iconst X175.here hx rfl (hb hby at_158) ?_
            show Steps p.tables e below (T175.setTop (mkF m 159 #[.val (.int p0), .val (.int p1), .val (.long q2), .second, .val (.long q3), .second, .val (.int v2_0), .val (.int v7_0), .val (.int v12_0), .val (.int v17_0), .val (.int v22_0), .val (.int v27_0), .val (.ref b32)] [(.int (2 : Int32)), (.ref b32)])) _
            exact Steps.refl _)
          obtain ⟨cq180, kq180, q180a, q180b, q180c⟩ := isOf hZ eh175 Q165_0
          obtain ⟨_, _, ⟨T180, L180, k180, n180⟩, -, X180, ⟨Lc180, hQ180, l180, y180, z180⟩, st180⟩ := X175.virtualBack hx (y := (⟨"com/example/spanfold/spanfold/RangeList", "hasFrom", "(I)Z"⟩ : MethodName)) (z := (⟨"com/example/spanfold/spanfold/RangeList", "hasFrom", "(I)Z"⟩ : MethodName)) hown (mvT hZ (hw _ (List.mem_of_getElem? (i := 42) rfl))) (mvT hZ (hw _ (List.mem_of_getElem? (i := 43) rfl))) (notFace_of_selects (args := #[]) (mvT hZ (hw _ (List.mem_of_getElem? (i := 45) rfl)))) (mvT hZ (hw _ (List.mem_of_getElem? (i := 45) rfl))) (mvT hZ (hw _ (List.mem_of_getElem? (i := 44) rfl))) (by decide) (backOf (W := 0) (rm8 l Z a0 hw [] b32 (2 : Int32) b153_b23 k23_153 (3 : Int32) ((((List.replicate 3 (.int (0 : Int32))).set 0 (.int ((((if v2_0 = (0 : Int32) then (0 : Int32) else (1 : Int32)) ||| (if v7_0 = (0 : Int32) then (0 : Int32) else (2 : Int32))).toInt8.toInt32).toInt8.toInt32))).set 1 (.int ((((if v12_0 = (0 : Int32) then (0 : Int32) else (1 : Int32)) ||| (if v17_0 = (0 : Int32) then (0 : Int32) else (2 : Int32))).toInt8.toInt32).toInt8.toInt32))).set 2 (.int ((((if v22_0 = (0 : Int32) then (0 : Int32) else (1 : Int32)) ||| (if v27_0 = (0 : Int32) then (0 : Int32) else (2 : Int32))).toInt8.toInt32).toInt8.toInt32))) ((((if v22_0 = (0 : Int32) then (0 : Int32) else (1 : Int32)) ||| (if v27_0 = (0 : Int32) then (0 : Int32) else (2 : Int32))).toInt8.toInt32).toInt8.toInt32) (3 : Int32) T165.heap n0 Z_168 Q165_3 Q165_4f Q165_7 (by decide) (by decide) (by decide) (rfl)) hZ (hw _ (List.mem_of_getElem? (i := 46) rfl)) (hw _ (List.mem_of_getElem? (i := 2) rfl)) (by decide) (by decide)) q180a q180c (g := (mkF m 159 #[.val (.int p0), .val (.int p1), .val (.long q2), .second, .val (.long q3), .second, .val (.int v2_0), .val (.int v7_0), .val (.int v12_0), .val (.int v17_0), .val (.int v22_0), .val (.int v27_0), .val (.ref b32)] [(.int (2 : Int32)), (.ref b32)])) rfl (by rw [hml]; rfl) K179 (argsL := [(.int (2 : Int32))]) (rest := []) (lenOf pd_6 rfl) rfl (by show 2 * 0 + _ ≤ _; exact Nat.le_of_eq rfl) (hb hby at_159) (fun _ _ => ⟨rfl, eh175, (by decide : 4 + 0 ≤ _), (by decide : 13 + 0 ≤ _)⟩)
          dsimp only [Pt.U, Pt.locs, Pt.cells, Pt.slots] at X180 l180 y180 z180 st180 hQ180
          subst l180 y180 z180
          obtain ⟨rfl, N180, eh180⟩ := hQ180
          have N180' := Fr.app N175' N180
          have K182 : Steps p.tables e below _ (T180.setTop (mkF m 162 #[.val (.int p0), .val (.int p1), .val (.long q2), .second, .val (.long q3), .second, .val (.int v2_0), .val (.int v7_0), .val (.int v12_0), .val (.int v17_0), .val (.int v22_0), .val (.int v27_0), .val (.ref b32)] [(.int ((if (((((if v22_0 = (0 : Int32) then (0 : Int32) else (1 : Int32)) ||| (if v27_0 = (0 : Int32) then (0 : Int32) else (2 : Int32))).toInt8.toInt32).toInt8.toInt32) &&& (1 : Int32)) = (0 : Int32) then (0 : Int32) else (1 : Int32)) &&& 1))])) := st180
          obtain ⟨r181, hr181⟩ : ∃ z : Int32, ((if (((((if v22_0 = (0 : Int32) then (0 : Int32) else (1 : Int32)) ||| (if v27_0 = (0 : Int32) then (0 : Int32) else (2 : Int32))).toInt8.toInt32).toInt8.toInt32) &&& (1 : Int32)) = (0 : Int32) then (0 : Int32) else (1 : Int32)) &&& 1) = z := ⟨_, rfl⟩
          rw [hr181] at K182
          have K183 : Steps p.tables e below _ (T180.setTop (mkF m 164 #[.val (.int p0), .val (.int p1), .val (.long q2), .second, .val (.long q3), .second, .val (.int v2_0), .val (.int v7_0), .val (.int v12_0), .val (.int v17_0), .val (.int v22_0), .val (.int v27_0), .val (.ref b32)] [(.int v22_0), (.int r181)])) := K182.trans (by
            show Steps p.tables e below (T180.setTop (mkF m 162 #[.val (.int p0), .val (.int p1), .val (.long q2), .second, .val (.long q3), .second, .val (.int v2_0), .val (.int v7_0), .val (.int v12_0), .val (.int v17_0), .val (.int v22_0), .val (.int v27_0), .val (.ref b32)] [(.int r181)])) _
            refine XS.iload X180.here hx rfl (hb hby at_162) rfl ?_
            show Steps p.tables e below (T180.setTop (mkF m 164 #[.val (.int p0), .val (.int p1), .val (.long q2), .second, .val (.long q3), .second, .val (.int v2_0), .val (.int v7_0), .val (.int v12_0), .val (.int v17_0), .val (.int v22_0), .val (.int v27_0), .val (.ref b32)] [(.int v22_0), (.int r181)])) _
            exact Steps.refl _)
          by_cases hc164 : r181 = v22_0
          · have K184 : Steps p.tables e below _ (T180.setTop (mkF m 172 #[.val (.int p0), .val (.int p1), .val (.long q2), .second, .val (.long q3), .second, .val (.int v2_0), .val (.int v7_0), .val (.int v12_0), .val (.int v17_0), .val (.int v22_0), .val (.int v27_0), .val (.ref b32)] [(.int (1 : Int32))])) := K183.trans (by
              show Steps p.tables e below (T180.setTop (mkF m 164 #[.val (.int p0), .val (.int p1), .val (.long q2), .second, .val (.long q3), .second, .val (.int v2_0), .val (.int v7_0), .val (.int v12_0), .val (.int v17_0), .val (.int v22_0), .val (.int v27_0), .val (.ref b32)] [(.int v22_0), (.int r181)])) _
              refine XS.icmpNo X180.here hx rfl (hb hby at_164) rfl (teq hc164).2 ?_
              show Steps p.tables e below (T180.setTop (mkF m 167 #[.val (.int p0), .val (.int p1), .val (.long q2), .second, .val (.long q3), .second, .val (.int v2_0), .val (.int v7_0), .val (.int v12_0), .val (.int v17_0), .val (.int v22_0), .val (.int v27_0), .val (.ref b32)] [])) _
              refine XS.iconst X180.here hx rfl (hb hby at_167) ?_
              show Steps p.tables e below (T180.setTop (mkF m 168 #[.val (.int p0), .val (.int p1), .val (.long q2), .second, .val (.long q3), .second, .val (.int v2_0), .val (.int v7_0), .val (.int v12_0), .val (.int v17_0), .val (.int v22_0), .val (.int v27_0), .val (.ref b32)] [(.int (1 : Int32))])) _
              refine XS.goto X180.here hx rfl (pc0 := 168) (pc' := 172) rfl (hb hby at_168) (by decide) (by decide) ?_
              show Steps p.tables e below (T180.setTop (mkF m 172 #[.val (.int p0), .val (.int p1), .val (.long q2), .second, .val (.long q3), .second, .val (.int v2_0), .val (.int v7_0), .val (.int v12_0), .val (.int v17_0), .val (.int v22_0), .val (.int v27_0), .val (.ref b32)] [(.int (1 : Int32))])) _
              exact Steps.refl _)
            subst hr181
            subst hr176
            exact ⟨T180, _, (1 : Int32), X180, eh180, N180', (by rw [if_pos hc142, if_pos hc153, if_pos hc164]), K184⟩
          · have K185 : Steps p.tables e below _ (T180.setTop (mkF m 172 #[.val (.int p0), .val (.int p1), .val (.long q2), .second, .val (.long q3), .second, .val (.int v2_0), .val (.int v7_0), .val (.int v12_0), .val (.int v17_0), .val (.int v22_0), .val (.int v27_0), .val (.ref b32)] [(.int (0 : Int32))])) := K183.trans (by
              show Steps p.tables e below (T180.setTop (mkF m 164 #[.val (.int p0), .val (.int p1), .val (.long q2), .second, .val (.long q3), .second, .val (.int v2_0), .val (.int v7_0), .val (.int v12_0), .val (.int v17_0), .val (.int v22_0), .val (.int v27_0), .val (.ref b32)] [(.int v22_0), (.int r181)])) _
              refine XS.icmpYes X180.here hx rfl (pc0 := 164) (pc' := 171) rfl (hb hby at_164) rfl (feq hc164).2 (by decide) (by decide) ?_
              show Steps p.tables e below (T180.setTop (mkF m 171 #[.val (.int p0), .val (.int p1), .val (.long q2), .second, .val (.long q3), .second, .val (.int v2_0), .val (.int v7_0), .val (.int v12_0), .val (.int v17_0), .val (.int v22_0), .val (.int v27_0), .val (.ref b32)] [])) _
              refine XS.iconst X180.here hx rfl (hb hby at_171) ?_
              show Steps p.tables e below (T180.setTop (mkF m 172 #[.val (.int p0), .val (.int p1), .val (.long q2), .second, .val (.long q3), .second, .val (.int v2_0), .val (.int v7_0), .val (.int v12_0), .val (.int v17_0), .val (.int v22_0), .val (.int v27_0), .val (.ref b32)] [(.int (0 : Int32))])) _
              exact Steps.refl _)
            subst hr181
            subst hr176
            exact ⟨T180, _, (0 : Int32), X180, eh180, N180', (by rw [if_pos hc142, if_pos hc153, if_neg hc164]), K185⟩
        · have K186 : Steps p.tables e below _ (T175.setTop (mkF m 172 #[.val (.int p0), .val (.int p1), .val (.long q2), .second, .val (.long q3), .second, .val (.int v2_0), .val (.int v7_0), .val (.int v12_0), .val (.int v17_0), .val (.int v22_0), .val (.int v27_0), .val (.ref b32)] [(.int (0 : Int32))])) := K178.trans (by
            show Steps p.tables e below (T175.setTop (mkF m 153 #[.val (.int p0), .val (.int p1), .val (.long q2), .second, .val (.long q3), .second, .val (.int v2_0), .val (.int v7_0), .val (.int v12_0), .val (.int v17_0), .val (.int v22_0), .val (.int v27_0), .val (.ref b32)] [(.int v12_0), (.int r176)])) _
            refine XS.icmpYes X175.here hx rfl (pc0 := 153) (pc' := 171) rfl (hb hby at_153) rfl (feq hc153).2 (by decide) (by decide) ?_
            show Steps p.tables e below (T175.setTop (mkF m 171 #[.val (.int p0), .val (.int p1), .val (.long q2), .second, .val (.long q3), .second, .val (.int v2_0), .val (.int v7_0), .val (.int v12_0), .val (.int v17_0), .val (.int v22_0), .val (.int v27_0), .val (.ref b32)] [])) _
            refine XS.iconst X175.here hx rfl (hb hby at_171) ?_
            show Steps p.tables e below (T175.setTop (mkF m 172 #[.val (.int p0), .val (.int p1), .val (.long q2), .second, .val (.long q3), .second, .val (.int v2_0), .val (.int v7_0), .val (.int v12_0), .val (.int v17_0), .val (.int v22_0), .val (.int v27_0), .val (.ref b32)] [(.int (0 : Int32))])) _
            exact Steps.refl _)
          subst hr176
          exact ⟨T175, _, (0 : Int32), X175, eh175, N175', (by rw [if_pos hc142, if_neg hc153]), K186⟩
      · have K187 : Steps p.tables e below _ (T169.setTop (mkF m 172 #[.val (.int p0), .val (.int p1), .val (.long q2), .second, .val (.long q3), .second, .val (.int v2_0), .val (.int v7_0), .val (.int v12_0), .val (.int v17_0), .val (.int v22_0), .val (.int v27_0), .val (.ref b32)] [(.int (0 : Int32))])) := R173.trans (by
          show Steps p.tables e below (T169.setTop (mkF m 142 #[.val (.int p0), .val (.int p1), .val (.long q2), .second, .val (.long q3), .second, .val (.int v2_0), .val (.int v7_0), .val (.int v12_0), .val (.int v17_0), .val (.int v22_0), .val (.int v27_0), .val (.ref b32)] [(.int v2_0), (.int r170)])) _
          refine XS.icmpYes X169.here hx rfl (pc0 := 142) (pc' := 171) rfl (hb hby at_142) rfl (feq hc142).2 (by decide) (by decide) ?_
          show Steps p.tables e below (T169.setTop (mkF m 171 #[.val (.int p0), .val (.int p1), .val (.long q2), .second, .val (.long q3), .second, .val (.int v2_0), .val (.int v7_0), .val (.int v12_0), .val (.int v17_0), .val (.int v22_0), .val (.int v27_0), .val (.ref b32)] [])) _
          refine XS.iconst X169.here hx rfl (hb hby at_171) ?_
          show Steps p.tables e below (T169.setTop (mkF m 172 #[.val (.int p0), .val (.int p1), .val (.long q2), .second, .val (.long q3), .second, .val (.int v2_0), .val (.int v7_0), .val (.int v12_0), .val (.int v17_0), .val (.int v22_0), .val (.int v27_0), .val (.ref b32)] [(.int (0 : Int32))])) _
          exact Steps.refl _)
        exact ⟨T169, _, (0 : Int32), X169, eh169, N169', (by rw [if_neg hc142]), K187⟩
    have K188 := K172.trans S173
    have hone : (v173_0 &&& 1) = (1 : Int32) := own_law_3 p0 p1 q2 q3 v2_0 v7_0 v12_0 v17_0 v22_0 v27_0 r170 v173_0 hv2_0 hv7_0 hv12_0 hv17_0 hv22_0 hv27_0 hr170 hv173_0
    obtain ⟨fs, hr, hrun, hended, hW, hsame⟩ := X173.leave (v := some (.int (v173_0 &&& 1))) (fun h => by rw [Bd.returns] at h; cases h)
    exact ⟨_, _, K188.trans (retN X173 hx (t := .boolean) Bd.returns (by simp) (hb hby at_172) hr), hrun, hended, _, _, rfl, ⟨by rw [hone], N173⟩, ⟨_, rfl⟩, hW, hsame.mono (by decide) (by decide)⟩
set_option maxRecDepth 65536 in
set_option maxHeartbeats 40000000 in
theorem comes_1 {Post : Tables → Env → Array Value → State → Outcome → State → Prop} (hpost : ∀ tb e args s v u, (limb_1_1.after args s (.returned v) u = true ∧ limb_1_2.after args s (.returned v) u = true ∧ True) → FrameEnd s (.returned v) u (Jvm.fieldLocs frame_1_writes args s ++ Jvm.arrayLocs frame_1_arrays args s ++ Jvm.staticLocs frame_1_statics s) 24 192 → Post tb e args s (.returned v) u) :
    ArmFor flags0 classFile x code maxLocals ret World_1 tables_1 room_1 Calls_1 rest_1 Pre_1 Post := by
  intro l hfl _ _ p e ha hc hk s m args below hf hA hF happ hP
  obtain ⟨hcalls, hrest, hpre⟩ := hP
  obtain ⟨-, -, -, hnamed, -, -, -, hat⟩ := (Spec.applies_iff hf).mp happ
  obtain ⟨hg, hn⟩ := and_e (Cond.before_iff.mp (show (Jvm.Cond.and given_1 narrow_1).before args s = true from hpre))
  obtain ⟨g1, g2⟩ := and_e hg
  obtain ⟨g3, g4⟩ := and_e g2
  obtain ⟨g5, g6⟩ := and_e g4
  obtain ⟨g7, g8⟩ := and_e g6
  obtain ⟨w0, w1, w2, w3, rfl⟩ : ∃ w0 w1 w2 w3 : Value, args = #[w0, w1, w2, w3] := by
    have hs : args.size = 4 := by simpa [Cond.value, given_1] using g1
    obtain ⟨L⟩ := args
    match L, hs with
    | [w0, w1, w2, w3], _ => exact ⟨w0, w1, w2, w3, rfl⟩
  have hw := fun d (hd : d ∈ tables_1) => atoms_spec (ws := Jvm.Cond.code x code maxLocals ret :: tables_1) hat d (List.mem_cons_of_mem _ hd)
  obtain ⟨i0, ei0⟩ := is_v g3
  obtain rfl : w0 = (.int i0) := Option.some.inj ei0
  obtain ⟨i1, ei1⟩ := is_v g5
  obtain rfl : w1 = (.int i1) := Option.some.inj ei1
  obtain ⟨i2, ei2⟩ := isL_v g7
  obtain rfl : w2 = (.long i2) := Option.some.inj ei2
  obtain ⟨i3, ei3⟩ := isL_v g8
  obtain rfl : w3 = (.long i3) := Option.some.inj ei3
  obtain ⟨n, o, h1, h2, h3, _, L, rfl, ⟨rfl, N⟩, hq⟩ := rm0 l s _ hw tables_1 i0 i1 i2 i3 s.heap s.heap.size (Nat.le_refl _) p e ha hc hk s m _ below hf ((Spec.applies_iff_loose hf).mp happ).1 ⟨rfl, State.Warmed39.refl s, rfl⟩ trivial
  refine ⟨n, _, h1, h2, h3, hpost _ _ _ _ _ _ ⟨Cond.after_iff.mpr rfl, Cond.after_iff.mpr (eq_i res_at (Term.int_eval (1)) rfl), trivial⟩ ⟨hq.1, hq.2.1, (hq.2.2.sift fun y hy => Or.inr (N y hy)).mono (by decide) (by decide)⟩⟩
theorem main_1_1 : Claimed_1_1 := comes_1 fun _ _ _ _ _ _ h hF => ⟨h.1, hF⟩
theorem main_1_2 : Claimed_1_2 := comes_1 fun _ _ _ _ _ _ h hF => ⟨h.2.1, hF⟩
end Jvm.Pilot.@@N@@
namespace Jvm.Pilot.@@N@@
open Jvm Jvm.ClassFile Sem Op Lib Jvm.Free Jvm.Stand Jvm.Pilot.@@N@@.Jvm.D
/-! MADE BY PROGRAM (witnessworld.py) out of the Statement's table words and the real class files: 16 classes; the members and pool entries that the words name. The judged class is class 1, her method 1. -/
namespace start1
open Jvm.ClassFile
def u (s : String) : CpInfo := .utf8 (stringToUtf16 s)
/-- a pool by its gaps: so many unusable entries, then the entry; so many at the end -/
def gap : Nat → List CpInfo → List CpInfo
  | 0, r => r
  | n + 1, r => .unusable :: gap n r
def poolList (es : List (Nat × CpInfo)) (last : Nat) : List CpInfo := es.foldr (fun e r => gap e.1 (e.2 :: r)) (gap last [])
def pool (es : List (Nat × CpInfo)) (last : Nat) : Array CpInfo := ⟨poolList es last⟩
def fileOf (pool : Array CpInfo) (this : Nat) (attrs : Array Attribute := #[]) (ms : Array MethodInfo := #[]) (fl : Nat := 33) (sup : Nat := 0) (ifs : Array Nat := #[]) (fds : Array FieldInfo := #[]) : ClassFile where
  minorVersion := 0
  majorVersion := 65
  constantPool := pool
  accessFlags := fl
  thisClass := this
  superClass := sup
  interfaces := ifs
  fields := fds
  methods := ms
  attributes := attrs
def plain (name : String) (sup : Option ClassId) : Class where
  name := name
  kind := .ordinary
  loader := none
  accessFlags := 33
  super := sup
  interfaces := #[]
  cf := none
  fields := #[]
  methods := #[]
  instanceTypes := #[]
  staticTypes := #[]
  resolved := #[]
  callSites := []
  init := .initialized
  statics := none
  mirror := none

def pool0 : Array CpInfo := pool [(5, u "<init>"), (0, u "()V"), (1, .class_ 10), (1, u "java/lang/Object")] 113

def k0c0 : Code := { maxStack := 0, maxLocals := 1, code := object_method_1_code, exceptionTable := #[], attributes := #[] }
def k0m0 : Method := { name := "<init>", desc := "()V", sig := { parameters := [], returnType := none }, accessFlags := 1, code := some k0c0 }
/-- java/lang/Object -/
def k0 : Class := { plain "java/lang/Object" none with
  accessFlags := 33
  interfaces := #[]
  cf := some (fileOf pool0 8 #[] #[{ accessFlags := 1, nameIndex := 5, descriptorIndex := 6, attributes := #[] }] 33 0 #[] #[])
  fields := #[]
  methods := #[k0m0]
  instanceTypes := #[]
  staticTypes := #[]
  resolved := Array.replicate 124 none
  statics := none }

def pool1 : Array CpInfo := pool [(2, .class_ 4), (1, u "java/lang/Object"), (0, u "<init>"), (0, u "()V"), (0, .class_ 8), (0, u "com/example/spanfold/spanfold/RangeList"), (0, .methodref 7 10), (0, .nameAndType 5 11), (0, u "(I)V"), (0, .methodref 7 13), (0, .nameAndType 14 15), (0, u "add"), (0, u "(ZJZJ)V"), (0, .methodref 7 17), (0, .nameAndType 18 19), (0, u "hasFrom"), (0, u "(I)Z"), (0, .class_ 21), (0, u "com/example/spanfold/spanfold/RangeListHasFromPinLaw"), (2, u "law"), (0, u "(IIJJ)Z")] 3

def k1m0 : Method := { name := "<init>", desc := "()V", sig := { parameters := [], returnType := none }, accessFlags := 1, code := none }
def k1c1 : Code := { maxStack := 9, maxLocals := 13, code := code, exceptionTable := #[], attributes := #[] }
def k1m1 : Method := { name := "law", desc := "(IIJJ)Z", sig := { parameters := [.int, .int, .long, .long], returnType := some .boolean }, accessFlags := 9, code := some k1c1 }
/-- com/example/spanfold/spanfold/RangeListHasFromPinLaw -/
def k1 : Class := { plain "com/example/spanfold/spanfold/RangeListHasFromPinLaw" (some 0) with
  accessFlags := 49
  interfaces := #[]
  cf := some (fileOf pool1 20 #[] #[{ accessFlags := 1, nameIndex := 5, descriptorIndex := 6, attributes := #[] }, { accessFlags := 9, nameIndex := 24, descriptorIndex := 25, attributes := #[] }] 49 2 #[] #[])
  fields := #[]
  methods := #[k1m0, k1m1]
  instanceTypes := #[]
  staticTypes := #[]
  resolved := Array.replicate 29 none
  statics := none }

def pool2 : Array CpInfo := pool [(1, .methodref 2 3), (0, .class_ 4), (0, .nameAndType 5 6), (0, u "java/lang/Object"), (0, u "<init>"), (0, u "()V"), (0, .fieldref 8 9), (0, .class_ 10), (0, .nameAndType 11 12), (0, u "com/example/spanfold/spanfold/RangeList"), (0, u "froms"), (0, u "[J"), (0, .fieldref 8 14), (0, .nameAndType 15 12), (0, u "tos"), (0, .fieldref 8 17), (0, .nameAndType 18 19), (0, u "ends"), (0, u "[B"), (0, .fieldref 8 21), (0, .nameAndType 22 23), (0, u "size"), (0, u "I"), (0, .methodref 25 26), (0, .class_ 27), (0, .nameAndType 28 29), (0, u "java/util/Objects"), (0, u "checkIndex"), (0, u "(II)I"), (0, .methodref 31 32), (0, .class_ 33), (0, .nameAndType 34 29), (0, u "java/lang/Math"), (0, u "max"), (0, .methodref 36 37), (0, .class_ 38), (0, .nameAndType 39 40), (0, u "java/util/Arrays"), (0, u "copyOf"), (0, u "([JI)[J"), (0, .methodref 36 42), (0, .nameAndType 39 43), (0, u "([BI)[B"), (4, u "hasFrom"), (13, u "add"), (0, u "(ZJZJ)V"), (67, u "HAS_FROM"), (0, u "B"), (2, u "HAS_TO"), (1, u "INSERTION_SORT_LIMIT"), (1, u "(I)V"), (3, u "(I)Z")] 34

def k2c0 : Code := { maxStack := 2, maxLocals := 2, code := prog_13_method_1_code, exceptionTable := #[], attributes := #[] }
def k2m0 : Method := { name := "<init>", desc := "(I)V", sig := { parameters := [.int], returnType := none }, accessFlags := 1, code := some k2c0 }
def k2c1 : Code := { maxStack := 3, maxLocals := 2, code := prog_13_method_3_code, exceptionTable := #[], attributes := #[] }
def k2m1 : Method := { name := "hasFrom", desc := "(I)Z", sig := { parameters := [.int], returnType := some .boolean }, accessFlags := 1, code := some k2c1 }
def k2c2 : Code := { maxStack := 4, maxLocals := 8, code := prog_13_method_7_code, exceptionTable := #[], attributes := #[] }
def k2m2 : Method := { name := "add", desc := "(ZJZJ)V", sig := { parameters := [.boolean, .long, .boolean, .long], returnType := none }, accessFlags := 0, code := some k2c2 }
/-- com/example/spanfold/spanfold/RangeList -/
def k2 : Class := { plain "com/example/spanfold/spanfold/RangeList" (some 0) with
  accessFlags := 49
  interfaces := #[]
  cf := some (fileOf pool2 8 #[] #[{ accessFlags := 1, nameIndex := 5, descriptorIndex := 139, attributes := #[] }, { accessFlags := 1, nameIndex := 48, descriptorIndex := 143, attributes := #[] }, { accessFlags := 0, nameIndex := 62, descriptorIndex := 63, attributes := #[] }] 49 2 #[] #[{ accessFlags := 26, nameIndex := 131, descriptorIndex := 132, attributes := #[] }, { accessFlags := 26, nameIndex := 135, descriptorIndex := 132, attributes := #[] }, { accessFlags := 26, nameIndex := 137, descriptorIndex := 23, attributes := #[] }, { accessFlags := 2, nameIndex := 11, descriptorIndex := 12, attributes := #[] }, { accessFlags := 2, nameIndex := 15, descriptorIndex := 12, attributes := #[] }, { accessFlags := 2, nameIndex := 18, descriptorIndex := 19, attributes := #[] }, { accessFlags := 2, nameIndex := 22, descriptorIndex := 23, attributes := #[] }])
  fields := #[{ name := "HAS_FROM", type := .byte, accessFlags := 26, slot := 0, constantValue := 0 }, { name := "HAS_TO", type := .byte, accessFlags := 26, slot := 1, constantValue := 0 }, { name := "INSERTION_SORT_LIMIT", type := .int, accessFlags := 26, slot := 2, constantValue := 0 }, { name := "froms", type := (.array .long), accessFlags := 2, slot := 0, constantValue := 0 }, { name := "tos", type := (.array .long), accessFlags := 2, slot := 1, constantValue := 0 }, { name := "ends", type := (.array .byte), accessFlags := 2, slot := 2, constantValue := 0 }, { name := "size", type := .int, accessFlags := 2, slot := 3, constantValue := 0 }]
  methods := #[k2m0, k2m1, k2m2]
  instanceTypes := #[(.array .long), (.array .long), (.array .byte), .int]
  staticTypes := #[.byte, .byte, .int]
  resolved := Array.replicate 178 none
  statics := none }

def pool3 : Array CpInfo := pool [(1, .class_ 2), (0, u "java/lang/Math"), (1, .class_ 6), (1, u "java/lang/Object"), (0, u "<init>"), (0, u "()V"), (89, .class_ 100), (1, u "java/lang/Math$RandomNumberGeneratorHolder"), (71, u "negativeZeroFloatBits"), (0, u "J"), (2, u "negativeZeroDoubleBits"), (21, u "max"), (2, u "min"), (43, u "$assertionsDisabled"), (0, u "Z"), (88, u "(II)I"), (2, u "twoToTheDoubleScaleDown"), (0, u "D"), (4, u "twoToTheDoubleScaleUp"), (9, u "E"), (3, u "PI"), (2, u "TAU"), (2, u "DEGREES_TO_RADIANS"), (0, u "RADIANS_TO_DEGREES")] 94

def k3m0 : Method := { name := "<init>", desc := "()V", sig := { parameters := [], returnType := none }, accessFlags := 2, code := none }
def k3c1 : Code := { maxStack := 2, maxLocals := 2, code := jdk_29_method_65_code, exceptionTable := #[], attributes := #[] }
def k3m1 : Method := { name := "max", desc := "(II)I", sig := { parameters := [.int, .int], returnType := some .int }, accessFlags := 9, code := some k3c1 }
def k3c2 : Code := { maxStack := 2, maxLocals := 2, code := jdk_29_method_69_code, exceptionTable := #[], attributes := #[] }
def k3m2 : Method := { name := "min", desc := "(II)I", sig := { parameters := [.int, .int], returnType := some .int }, accessFlags := 9, code := some k3c2 }
/-- java/lang/Math -/
def k3 : Class := { plain "java/lang/Math" (some 0) with
  accessFlags := 49
  interfaces := #[]
  cf := some (fileOf pool3 1 #[.nestMembers #[98]] #[{ accessFlags := 2, nameIndex := 7, descriptorIndex := 8, attributes := #[] }, { accessFlags := 9, nameIndex := 198, descriptorIndex := 335, attributes := #[] }, { accessFlags := 9, nameIndex := 201, descriptorIndex := 335, attributes := #[] }] 49 4 #[] #[{ accessFlags := 25, nameIndex := 354, descriptorIndex := 339, attributes := #[] }, { accessFlags := 25, nameIndex := 358, descriptorIndex := 339, attributes := #[] }, { accessFlags := 25, nameIndex := 361, descriptorIndex := 339, attributes := #[] }, { accessFlags := 26, nameIndex := 364, descriptorIndex := 339, attributes := #[] }, { accessFlags := 26, nameIndex := 365, descriptorIndex := 339, attributes := #[] }, { accessFlags := 26, nameIndex := 172, descriptorIndex := 173, attributes := #[] }, { accessFlags := 26, nameIndex := 176, descriptorIndex := 173, attributes := #[] }, { accessFlags := 8, nameIndex := 344, descriptorIndex := 339, attributes := #[] }, { accessFlags := 8, nameIndex := 338, descriptorIndex := 339, attributes := #[] }, { accessFlags := 4120, nameIndex := 245, descriptorIndex := 246, attributes := #[] }])
  fields := #[{ name := "E", type := .double, accessFlags := 25, slot := 0, constantValue := 0 }, { name := "PI", type := .double, accessFlags := 25, slot := 1, constantValue := 0 }, { name := "TAU", type := .double, accessFlags := 25, slot := 2, constantValue := 0 }, { name := "DEGREES_TO_RADIANS", type := .double, accessFlags := 26, slot := 3, constantValue := 0 }, { name := "RADIANS_TO_DEGREES", type := .double, accessFlags := 26, slot := 4, constantValue := 0 }, { name := "negativeZeroFloatBits", type := .long, accessFlags := 26, slot := 5, constantValue := 0 }, { name := "negativeZeroDoubleBits", type := .long, accessFlags := 26, slot := 6, constantValue := 0 }, { name := "twoToTheDoubleScaleUp", type := .double, accessFlags := 8, slot := 7, constantValue := 0 }, { name := "twoToTheDoubleScaleDown", type := .double, accessFlags := 8, slot := 8, constantValue := 0 }, { name := "$assertionsDisabled", type := .boolean, accessFlags := 4120, slot := 9, constantValue := 0 }]
  methods := #[k3m0, k3m1, k3m2]
  instanceTypes := #[]
  staticTypes := #[.double, .double, .double, .double, .double, .long, .long, .double, .double, .boolean]
  resolved := Array.replicate 460 none
  statics := none }

def pool4 : Array CpInfo := pool [(2, .class_ 4), (1, u "java/lang/Object"), (0, u "<init>"), (0, u "()V"), (7, .class_ 16), (1, u "java/util/Arrays"), (57, .class_ 76), (1, u "java/util/Arrays$NaturalOrder"), (36, .class_ 115), (1, u "java/util/Arrays$LegacyMergeSort"), (1, u "Z"), (32, .methodref 151 152), (0, .class_ 153), (0, .nameAndType 154 155), (0, u "java/lang/System"), (0, u "arraycopy"), (0, u "(Ljava/lang/Object;ILjava/lang/Object;II)V"), (146, u "copyOf"), (1, .methodref 305 306), (0, .class_ 307), (0, .nameAndType 308 309), (0, u "java/lang/Math"), (0, u "min"), (0, u "(II)I"), (65, .class_ 376), (0, u "java/util/Arrays$ArrayList"), (68, u "$assertionsDisabled"), (269, u "MIN_ARRAY_SORT_GRAN"), (0, u "I"), (2, u "INSERTIONSORT_THRESHOLD"), (149, u "([BI)[B"), (2, u "([JI)[J"), (102, .class_ 976), (0, u "java/util/Arrays$ArrayItr")] 52

def k4m0 : Method := { name := "<init>", desc := "()V", sig := { parameters := [], returnType := none }, accessFlags := 2, code := none }
def k4c1 : Code := { maxStack := 6, maxLocals := 3, code := jdk_65_method_121_code, exceptionTable := #[], attributes := #[] }
def k4m1 : Method := { name := "copyOf", desc := "([BI)[B", sig := { parameters := [(.array .byte), .int], returnType := some (.array .byte) }, accessFlags := 9, code := some k4c1 }
def k4c2 : Code := { maxStack := 6, maxLocals := 3, code := jdk_65_method_124_code, exceptionTable := #[], attributes := #[] }
def k4m2 : Method := { name := "copyOf", desc := "([JI)[J", sig := { parameters := [(.array .long), .int], returnType := some (.array .long) }, accessFlags := 9, code := some k4c2 }
/-- java/util/Arrays -/
def k4 : Class := { plain "java/util/Arrays" (some 0) with
  accessFlags := 49
  interfaces := #[]
  cf := some (fileOf pool4 14 #[.nestMembers #[975, 375, 113, 74]] #[{ accessFlags := 2, nameIndex := 5, descriptorIndex := 6, attributes := #[] }, { accessFlags := 9, nameIndex := 302, descriptorIndex := 869, attributes := #[] }, { accessFlags := 9, nameIndex := 302, descriptorIndex := 872, attributes := #[] }] 49 2 #[] #[{ accessFlags := 26, nameIndex := 715, descriptorIndex := 716, attributes := #[] }, { accessFlags := 26, nameIndex := 719, descriptorIndex := 716, attributes := #[] }, { accessFlags := 4120, nameIndex := 445, descriptorIndex := 117, attributes := #[] }])
  fields := #[{ name := "MIN_ARRAY_SORT_GRAN", type := .int, accessFlags := 26, slot := 0, constantValue := 0 }, { name := "INSERTIONSORT_THRESHOLD", type := .int, accessFlags := 26, slot := 1, constantValue := 0 }, { name := "$assertionsDisabled", type := .boolean, accessFlags := 4120, slot := 2, constantValue := 0 }]
  methods := #[k4m0, k4m1, k4m2]
  instanceTypes := #[]
  staticTypes := #[.int, .int, .boolean]
  resolved := Array.replicate 1029 none
  statics := none }

def pool5 : Array CpInfo := pool [(2, .class_ 4), (1, u "java/lang/Object"), (0, u "<init>"), (0, u "()V"), (1, .class_ 10), (1, u "java/lang/System"), (0, u "allowSecurityManager"), (0, u "I"), (16, u "cons"), (0, u "Ljava/io/Console;"), (77, .class_ 110), (1, u "java/lang/System$CallersHolder"), (43, u "initialErrStream"), (0, u "Ljava/io/PrintStream;"), (19, u "security"), (0, u "Ljava/lang/SecurityManager;"), (31, .class_ 209), (0, u "java/lang/System$1"), (7, u "props"), (0, u "Ljava/util/Properties;"), (2, u "lineSeparator"), (0, u "Ljava/lang/String;"), (96, .class_ 321), (1, u "java/lang/System$LoggerFinder"), (5, .class_ 328), (0, u "java/lang/System$Logger"), (67, u "err"), (2, u "out"), (91, u "notSupportedJnuEncoding"), (15, u "in"), (17, u "initialIn"), (0, u "Ljava/io/InputStream;"), (35, u "bootLayer"), (0, u "Ljava/lang/ModuleLayer;"), (99, .class_ 664), (0, u "java/lang/System$2"), (9, u "NEVER"), (2, u "MAYBE"), (49, u "arraycopy"), (0, u "(Ljava/lang/Object;ILjava/lang/Object;II)V"), (72, .class_ 802), (0, u "java/lang/System$Logger$Level")] 31

def k5m0 : Method := { name := "<init>", desc := "()V", sig := { parameters := [], returnType := none }, accessFlags := 2, code := none }
def k5m1 : Method := { name := "arraycopy", desc := "(Ljava/lang/Object;ILjava/lang/Object;II)V", sig := { parameters := [(.object "java/lang/Object"), .int, (.object "java/lang/Object"), .int, .int], returnType := none }, accessFlags := 265, code := none }
/-- java/lang/System -/
def k5 : Class := { plain "java/lang/System" (some 0) with
  accessFlags := 49
  interfaces := #[]
  cf := some (fileOf pool5 8 #[.nestMembers #[319, 327, 801, 108, 663, 208]] #[{ accessFlags := 2, nameIndex := 5, descriptorIndex := 6, attributes := #[] }, { accessFlags := 265, nameIndex := 727, descriptorIndex := 728, attributes := #[] }] 49 2 #[] #[{ accessFlags := 25, nameIndex := 507, descriptorIndex := 526, attributes := #[] }, { accessFlags := 25, nameIndex := 399, descriptorIndex := 155, attributes := #[] }, { accessFlags := 25, nameIndex := 396, descriptorIndex := 155, attributes := #[] }, { accessFlags := 10, nameIndex := 525, descriptorIndex := 526, attributes := #[] }, { accessFlags := 26, nameIndex := 674, descriptorIndex := 12, attributes := #[] }, { accessFlags := 26, nameIndex := 677, descriptorIndex := 12, attributes := #[] }, { accessFlags := 10, nameIndex := 11, descriptorIndex := 12, attributes := #[] }, { accessFlags := 74, nameIndex := 175, descriptorIndex := 176, attributes := #[] }, { accessFlags := 10, nameIndex := 491, descriptorIndex := 222, attributes := #[] }, { accessFlags := 74, nameIndex := 29, descriptorIndex := 30, attributes := #[] }, { accessFlags := 74, nameIndex := 154, descriptorIndex := 155, attributes := #[] }, { accessFlags := 10, nameIndex := 217, descriptorIndex := 218, attributes := #[] }, { accessFlags := 10, nameIndex := 221, descriptorIndex := 222, attributes := #[] }, { accessFlags := 8, nameIndex := 562, descriptorIndex := 563, attributes := #[] }])
  fields := #[{ name := "in", type := (.object "java/io/InputStream"), accessFlags := 25, slot := 0, constantValue := 0 }, { name := "out", type := (.object "java/io/PrintStream"), accessFlags := 25, slot := 1, constantValue := 0 }, { name := "err", type := (.object "java/io/PrintStream"), accessFlags := 25, slot := 2, constantValue := 0 }, { name := "initialIn", type := (.object "java/io/InputStream"), accessFlags := 10, slot := 3, constantValue := 0 }, { name := "NEVER", type := .int, accessFlags := 26, slot := 4, constantValue := 0 }, { name := "MAYBE", type := .int, accessFlags := 26, slot := 5, constantValue := 0 }, { name := "allowSecurityManager", type := .int, accessFlags := 10, slot := 6, constantValue := 0 }, { name := "security", type := (.object "java/lang/SecurityManager"), accessFlags := 74, slot := 7, constantValue := 0 }, { name := "notSupportedJnuEncoding", type := (.object "java/lang/String"), accessFlags := 10, slot := 8, constantValue := 0 }, { name := "cons", type := (.object "java/io/Console"), accessFlags := 74, slot := 9, constantValue := 0 }, { name := "initialErrStream", type := (.object "java/io/PrintStream"), accessFlags := 74, slot := 10, constantValue := 0 }, { name := "props", type := (.object "java/util/Properties"), accessFlags := 10, slot := 11, constantValue := 0 }, { name := "lineSeparator", type := (.object "java/lang/String"), accessFlags := 10, slot := 12, constantValue := 0 }, { name := "bootLayer", type := (.object "java/lang/ModuleLayer"), accessFlags := 8, slot := 13, constantValue := 0 }]
  methods := #[k5m0, k5m1]
  instanceTypes := #[]
  staticTypes := #[(.object "java/io/InputStream"), (.object "java/io/PrintStream"), (.object "java/io/PrintStream"), (.object "java/io/InputStream"), .int, .int, .int, (.object "java/lang/SecurityManager"), (.object "java/lang/String"), (.object "java/io/Console"), (.object "java/io/PrintStream"), (.object "java/util/Properties"), (.object "java/lang/String"), (.object "java/lang/ModuleLayer")]
  resolved := Array.replicate 834 none
  statics := none }

def pool6 : Array CpInfo := pool [(2, .class_ 4), (1, u "java/lang/Object"), (0, u "<init>"), (0, u "()V"), (35, .class_ 44), (1, u "java/util/Objects"), (60, .methodref 106 107), (0, .class_ 108), (0, .nameAndType 109 110), (0, u "jdk/internal/util/Preconditions"), (0, u "checkIndex"), (0, u "(IILjava/util/function/BiFunction;)I"), (60, u "(II)I")] 12

def k6m0 : Method := { name := "<init>", desc := "()V", sig := { parameters := [], returnType := none }, accessFlags := 2, code := none }
def k6c1 : Code := { maxStack := 3, maxLocals := 2, code := jdk_31_method_17_code, exceptionTable := #[], attributes := #[] }
def k6m1 : Method := { name := "checkIndex", desc := "(II)I", sig := { parameters := [.int, .int], returnType := some .int }, accessFlags := 9, code := some k6c1 }
/-- java/util/Objects -/
def k6 : Class := { plain "java/util/Objects" (some 0) with
  accessFlags := 49
  interfaces := #[]
  cf := some (fileOf pool6 42 #[] #[{ accessFlags := 2, nameIndex := 5, descriptorIndex := 6, attributes := #[] }, { accessFlags := 9, nameIndex := 109, descriptorIndex := 171, attributes := #[] }] 49 2 #[] #[])
  fields := #[]
  methods := #[k6m0, k6m1]
  instanceTypes := #[]
  staticTypes := #[]
  resolved := Array.replicate 184 none
  statics := none }

def pool7 : Array CpInfo := pool [(2, .class_ 4), (1, u "java/lang/Object"), (0, u "<init>"), (0, u "()V"), (17, .class_ 26), (1, u "jdk/internal/util/Preconditions"), (6, u "checkIndex"), (21, .class_ 56), (0, u "jdk/internal/util/Preconditions$4"), (57, .class_ 115), (0, u "jdk/internal/util/Preconditions$1"), (7, u "SIOOBE_FORMATTER"), (0, u "Ljava/util/function/BiFunction;"), (0, .class_ 126), (0, u "jdk/internal/util/Preconditions$2"), (3, u "AIOOBE_FORMATTER"), (0, .class_ 132), (0, u "jdk/internal/util/Preconditions$3"), (3, u "IOOBE_FORMATTER"), (41, u "(IILjava/util/function/BiFunction;)I")] 15

def k7m0 : Method := { name := "<init>", desc := "()V", sig := { parameters := [], returnType := none }, accessFlags := 1, code := none }
def k7c1 : Code := { maxStack := 3, maxLocals := 3, code := jdk_41_method_11_code, exceptionTable := #[], attributes := #[] }
def k7m1 : Method := { name := "checkIndex", desc := "(IILjava/util/function/BiFunction;)I", sig := { parameters := [.int, .int, (.object "java/util/function/BiFunction")], returnType := some .int }, accessFlags := 9, code := some k7c1 }
/-- jdk/internal/util/Preconditions -/
def k7 : Class := { plain "jdk/internal/util/Preconditions" (some 0) with
  accessFlags := 33
  interfaces := #[]
  cf := some (fileOf pool7 24 #[.nestMembers #[55, 131, 125, 114]] #[{ accessFlags := 1, nameIndex := 5, descriptorIndex := 6, attributes := #[] }, { accessFlags := 9, nameIndex := 33, descriptorIndex := 178, attributes := #[] }] 33 2 #[] #[{ accessFlags := 25, nameIndex := 123, descriptorIndex := 124, attributes := #[] }, { accessFlags := 25, nameIndex := 130, descriptorIndex := 124, attributes := #[] }, { accessFlags := 25, nameIndex := 136, descriptorIndex := 124, attributes := #[] }])
  fields := #[{ name := "SIOOBE_FORMATTER", type := (.object "java/util/function/BiFunction"), accessFlags := 25, slot := 0, constantValue := 0 }, { name := "AIOOBE_FORMATTER", type := (.object "java/util/function/BiFunction"), accessFlags := 25, slot := 1, constantValue := 0 }, { name := "IOOBE_FORMATTER", type := (.object "java/util/function/BiFunction"), accessFlags := 25, slot := 2, constantValue := 0 }]
  methods := #[k7m0, k7m1]
  instanceTypes := #[]
  staticTypes := #[(.object "java/util/function/BiFunction"), (.object "java/util/function/BiFunction"), (.object "java/util/function/BiFunction")]
  resolved := Array.replicate 194 none
  statics := none }

def pool8 : Array CpInfo := pool [(1, u "java/lang/Cloneable"), (0, .class_ 1), (0, u "java/lang/Object"), (0, .class_ 3)] 3

/-- java/lang/Cloneable -/
def k8 : Class := { plain "java/lang/Cloneable" (some 0) with
  accessFlags := 1537
  interfaces := #[]
  cf := some (fileOf pool8 2 #[] #[] 1537 4 #[] #[])
  fields := #[]
  methods := #[]
  instanceTypes := #[]
  staticTypes := #[]
  resolved := Array.replicate 8 none
  statics := none }

def pool9 : Array CpInfo := pool [(1, u "java/io/Serializable"), (0, .class_ 1), (0, u "java/lang/Object"), (0, .class_ 3)] 3

/-- java/io/Serializable -/
def k9 : Class := { plain "java/io/Serializable" (some 0) with
  accessFlags := 1537
  interfaces := #[]
  cf := some (fileOf pool9 2 #[] #[] 1537 4 #[] #[])
  fields := #[]
  methods := #[]
  instanceTypes := #[]
  staticTypes := #[]
  resolved := Array.replicate 8 none
  statics := none }

/-- the primitive byte -/
def k10 : Class := { plain "byte" none with kind := .primitive 'B', accessFlags := 0x411 }
/-- [B -/
def k11 : Class := { plain "[B" (some 0) with kind := .array 10 .byte, interfaces := #[8, 9], accessFlags := 1041 }

/-- the primitive int -/
def k12 : Class := { plain "int" none with kind := .primitive 'I', accessFlags := 0x411 }
/-- [I -/
def k13 : Class := { plain "[I" (some 0) with kind := .array 12 .int, interfaces := #[8, 9], accessFlags := 1041 }

/-- the primitive long -/
def k14 : Class := { plain "long" none with kind := .primitive 'J', accessFlags := 0x411 }
/-- [J -/
def k15 : Class := { plain "[J" (some 0) with kind := .array 14 .long, interfaces := #[8, 9], accessFlags := 1041 }

def heap : Heap := #[]
def classes : Array Class := #[k0, k1, k2, k3, k4, k5, k6, k7, k8, k9, k10, k11, k12, k13, k14, k15]
def interned : List (Array UInt16 × Addr) := []
def slotsUsed : Nat := 0
def theMethod : MethodId := ⟨1, 1⟩
def args0 : Array Value := #[.int 5, .int 3, .long 7, .long 9]
def aboutOver (below : List Frame) : State where
  vm := { classes := classes, interned := interned.toArray }
  heap := heap
  slotsUsed := slotsUsed
  threads := #[{ frames := .invoking theMethod args0 :: below }]
def below0 : List Frame := [.native { method := ⟨0, 0⟩, args := #[] }]
def about1 : State := aboutOver below0
def p0 : Program := .bare "" "" ""
def e0 : Env := launch0.env 0 0 0
theorem w_frames : about1.frames = Frame.invoking theMethod args0 :: below0 := rfl
set_option maxRecDepth 65536 in
theorem w_args : argsFit about1.vm theMethod args0 = true := by decide +kernel
set_option maxRecDepth 65536 in
theorem w_heap : heapFits about1 = true := by decide +kernel
set_option maxRecDepth 65536 in
theorem w_runnable : about1.curStatus? = some .runnable := by decide +kernel
set_option maxRecDepth 65536 in
theorem w_alone : about1.alone = true := by decide +kernel
set_option maxRecDepth 65536 in
theorem w_named : about1.methodNamed? x = some theMethod := by decide +kernel
set_option maxRecDepth 65536 in
theorem w_hears : about1.hears theMethod below0 = true := by decide +kernel
set_option maxRecDepth 65536 in
theorem w_ripe : about1.ripe theMethod args0 below0 = true := by decide +kernel
theorem w_running : about1.status = .running := rfl
set_option maxRecDepth 65536 in
theorem w_room : about1.hasRoom e0.platform room_1 = true :=
  launch0.hasRoom_least _ room_1 (by decide +kernel) (by decide +kernel) (by decide +kernel) (by decide +kernel) (by decide +kernel) (by decide +kernel)
theorem allAtoms_all (ts : List Jvm.Cond) (a : Array Jvm.Value) (st : Jvm.State) : (allAtoms ts).before a st = ts.all (fun c => c.before a st) := by
  induction ts with
  | nil => rfl
  | cons c t ih =>
    show (Jvm.Cond.and c (allAtoms t)).before a st = _
    rw [Jvm.Cond.before_and, ih, List.all_cons]
def words1 : List Jvm.Cond := Jvm.Cond.code x code maxLocals ret :: tables_1
/-- a 'code' word, met by the world's own term for the bytes: nothing is compared byte by byte -/
theorem code_word {y : MethodName} {bytes : ByteArray} {mx : Nat} {rt : Option FieldType} {a : Array Value} {s : State} {m : MethodId} {meth : Method} {c : Code} (h1 : s.methodNamed? y = some m) (h2 : s.vm.method? m = some meth) (h3 : meth.code = some c) (h4 : c.code = bytes)
    (h5 : (c.maxLocals == mx && c.exceptionTable.isEmpty && decide (c.maxStack ≤ mostOperands) && decide (meth.sig.returnType = rt) && !meth.locks && decide (parseMethodDescriptor y.desc = some meth.sig)) = true) : (Jvm.Cond.code y bytes mx rt).before a s = true := by
  simp only [Bool.and_eq_true, beq_iff_eq, Bool.not_eq_true', decide_eq_true_eq] at h5
  obtain ⟨⟨⟨⟨⟨g1, g2⟩, g3⟩, g4⟩, g5⟩, g6⟩ := h5
  simp [Cond.before, Cond.holds, Cond.value, h1, h2, h3, h4, g1, g2, g3, g4, g5, g6]
def isCode : Jvm.Cond → Bool
  | .code _ _ _ _ => true
  | _ => false
theorem all_split {L : List Jvm.Cond} {P : Jvm.Cond → Bool} (h1 : L.all (fun c => isCode c || P c) = true) (h2 : ∀ c ∈ L.filter isCode, P c = true) : L.all P = true := by
  refine List.all_eq_true.mpr fun c hc => ?_
  have h := List.all_eq_true.mp h1 c hc
  rcases Bool.eq_false_or_eq_true (isCode c) with hi | hi
  · exact h2 c (List.mem_filter.mpr ⟨hc, hi⟩)
  · simpa [hi] using h
set_option maxRecDepth 65536 in
theorem w_c0 : (Jvm.Cond.code x code maxLocals ret).before args0 about1 = true := code_word (m := ⟨1, 1⟩) (meth := k1m1) (c := k1c1) (by decide +kernel) rfl rfl rfl (by decide +kernel)
set_option maxRecDepth 65536 in
theorem w_c1 : (Jvm.Cond.code ({ cls := "com/example/spanfold/spanfold/RangeList", name := "<init>", desc := "(I)V" } : Jvm.MethodName) prog_13_method_1_code (2 : Nat) (Option.none : Option Jvm.ClassFile.FieldType)).before args0 about1 = true := code_word (m := ⟨2, 0⟩) (meth := k2m0) (c := k2c0) (by decide +kernel) rfl rfl rfl (by decide +kernel)
set_option maxRecDepth 65536 in
theorem w_c2 : (Jvm.Cond.code ({ cls := "java/lang/Object", name := "<init>", desc := "()V" } : Jvm.MethodName) object_method_1_code (1 : Nat) (Option.none : Option Jvm.ClassFile.FieldType)).before args0 about1 = true := code_word (m := ⟨0, 0⟩) (meth := k0m0) (c := k0c0) (by decide +kernel) rfl rfl rfl (by decide +kernel)
set_option maxRecDepth 65536 in
theorem w_c3 : (Jvm.Cond.code ({ cls := "com/example/spanfold/spanfold/RangeList", name := "add", desc := "(ZJZJ)V" } : Jvm.MethodName) prog_13_method_7_code (8 : Nat) (Option.none : Option Jvm.ClassFile.FieldType)).before args0 about1 = true := code_word (m := ⟨2, 2⟩) (meth := k2m2) (c := k2c2) (by decide +kernel) rfl rfl rfl (by decide +kernel)
set_option maxRecDepth 65536 in
theorem w_c4 : (Jvm.Cond.code ({ cls := "java/lang/Math", name := "max", desc := "(II)I" } : Jvm.MethodName) jdk_29_method_65_code (2 : Nat) (Option.some Jvm.ClassFile.FieldType.int)).before args0 about1 = true := code_word (m := ⟨3, 1⟩) (meth := k3m1) (c := k3c1) (by decide +kernel) rfl rfl rfl (by decide +kernel)
set_option maxRecDepth 65536 in
theorem w_c5 : (Jvm.Cond.code ({ cls := "java/util/Arrays", name := "copyOf", desc := "([JI)[J" } : Jvm.MethodName) jdk_65_method_124_code (3 : Nat) (Option.some (Jvm.ClassFile.FieldType.array Jvm.ClassFile.FieldType.long))).before args0 about1 = true := code_word (m := ⟨4, 2⟩) (meth := k4m2) (c := k4c2) (by decide +kernel) rfl rfl rfl (by decide +kernel)
set_option maxRecDepth 65536 in
theorem w_c6 : (Jvm.Cond.code ({ cls := "java/lang/Math", name := "min", desc := "(II)I" } : Jvm.MethodName) jdk_29_method_69_code (2 : Nat) (Option.some Jvm.ClassFile.FieldType.int)).before args0 about1 = true := code_word (m := ⟨3, 2⟩) (meth := k3m2) (c := k3c2) (by decide +kernel) rfl rfl rfl (by decide +kernel)
set_option maxRecDepth 65536 in
theorem w_c7 : (Jvm.Cond.code ({ cls := "java/util/Arrays", name := "copyOf", desc := "([BI)[B" } : Jvm.MethodName) jdk_65_method_121_code (3 : Nat) (Option.some (Jvm.ClassFile.FieldType.array Jvm.ClassFile.FieldType.byte))).before args0 about1 = true := code_word (m := ⟨4, 1⟩) (meth := k4m1) (c := k4c1) (by decide +kernel) rfl rfl rfl (by decide +kernel)
set_option maxRecDepth 65536 in
theorem w_c8 : (Jvm.Cond.code ({ cls := "com/example/spanfold/spanfold/RangeList", name := "hasFrom", desc := "(I)Z" } : Jvm.MethodName) prog_13_method_3_code (2 : Nat) (Option.some Jvm.ClassFile.FieldType.boolean)).before args0 about1 = true := code_word (m := ⟨2, 1⟩) (meth := k2m1) (c := k2c1) (by decide +kernel) rfl rfl rfl (by decide +kernel)
set_option maxRecDepth 65536 in
theorem w_c9 : (Jvm.Cond.code ({ cls := "java/util/Objects", name := "checkIndex", desc := "(II)I" } : Jvm.MethodName) jdk_31_method_17_code (2 : Nat) (Option.some Jvm.ClassFile.FieldType.int)).before args0 about1 = true := code_word (m := ⟨6, 1⟩) (meth := k6m1) (c := k6c1) (by decide +kernel) rfl rfl rfl (by decide +kernel)
set_option maxRecDepth 65536 in
theorem w_c10 : (Jvm.Cond.code ({ cls := "jdk/internal/util/Preconditions", name := "checkIndex", desc := "(IILjava/util/function/BiFunction;)I" } : Jvm.MethodName) jdk_41_method_11_code (3 : Nat) (Option.some Jvm.ClassFile.FieldType.int)).before args0 about1 = true := code_word (m := ⟨7, 1⟩) (meth := k7m1) (c := k7c1) (by decide +kernel) rfl rfl rfl (by decide +kernel)
def codes1 : List Jvm.Cond := [Jvm.Cond.code x code maxLocals ret, Jvm.Cond.code ({ cls := "com/example/spanfold/spanfold/RangeList", name := "<init>", desc := "(I)V" } : Jvm.MethodName) prog_13_method_1_code (2 : Nat) (Option.none : Option Jvm.ClassFile.FieldType), Jvm.Cond.code ({ cls := "java/lang/Object", name := "<init>", desc := "()V" } : Jvm.MethodName) object_method_1_code (1 : Nat) (Option.none : Option Jvm.ClassFile.FieldType), Jvm.Cond.code ({ cls := "com/example/spanfold/spanfold/RangeList", name := "add", desc := "(ZJZJ)V" } : Jvm.MethodName) prog_13_method_7_code (8 : Nat) (Option.none : Option Jvm.ClassFile.FieldType), Jvm.Cond.code ({ cls := "java/lang/Math", name := "max", desc := "(II)I" } : Jvm.MethodName) jdk_29_method_65_code (2 : Nat) (Option.some Jvm.ClassFile.FieldType.int), Jvm.Cond.code ({ cls := "java/util/Arrays", name := "copyOf", desc := "([JI)[J" } : Jvm.MethodName) jdk_65_method_124_code (3 : Nat) (Option.some (Jvm.ClassFile.FieldType.array Jvm.ClassFile.FieldType.long)), Jvm.Cond.code ({ cls := "java/lang/Math", name := "min", desc := "(II)I" } : Jvm.MethodName) jdk_29_method_69_code (2 : Nat) (Option.some Jvm.ClassFile.FieldType.int), Jvm.Cond.code ({ cls := "java/util/Arrays", name := "copyOf", desc := "([BI)[B" } : Jvm.MethodName) jdk_65_method_121_code (3 : Nat) (Option.some (Jvm.ClassFile.FieldType.array Jvm.ClassFile.FieldType.byte)), Jvm.Cond.code ({ cls := "com/example/spanfold/spanfold/RangeList", name := "hasFrom", desc := "(I)Z" } : Jvm.MethodName) prog_13_method_3_code (2 : Nat) (Option.some Jvm.ClassFile.FieldType.boolean), Jvm.Cond.code ({ cls := "java/util/Objects", name := "checkIndex", desc := "(II)I" } : Jvm.MethodName) jdk_31_method_17_code (2 : Nat) (Option.some Jvm.ClassFile.FieldType.int), Jvm.Cond.code ({ cls := "jdk/internal/util/Preconditions", name := "checkIndex", desc := "(IILjava/util/function/BiFunction;)I" } : Jvm.MethodName) jdk_41_method_11_code (3 : Nat) (Option.some Jvm.ClassFile.FieldType.int)]
set_option maxRecDepth 65536 in
theorem codes_eq : words1.filter isCode = codes1 := rfl
theorem w_codes : ∀ c ∈ words1.filter isCode, c.before args0 about1 = true := by
  rw [codes_eq]
  intro c hc
  simp only [codes1, List.mem_cons, List.not_mem_nil, or_false] at hc
  rcases hc with rfl | rfl | rfl | rfl | rfl | rfl | rfl | rfl | rfl | rfl | rfl
  · exact w_c0
  · exact w_c1
  · exact w_c2
  · exact w_c3
  · exact w_c4
  · exact w_c5
  · exact w_c6
  · exact w_c7
  · exact w_c8
  · exact w_c9
  · exact w_c10
set_option maxRecDepth 65536 in
theorem w_t1 : (words1.take 24).all (fun c => isCode c || c.before args0 about1) = true := by decide +kernel
set_option maxRecDepth 65536 in
theorem w_t2 : ((words1.drop 24).take 24).all (fun c => isCode c || c.before args0 about1) = true := by decide +kernel
set_option maxRecDepth 65536 in
theorem w_t3 : ((words1.drop 24).drop 24).all (fun c => isCode c || c.before args0 about1) = true := by decide +kernel
theorem w_tables : (allAtoms (Jvm.Cond.code x code maxLocals ret :: tables_1)).before args0 about1 = true := by
  rw [allAtoms_all]
  show words1.all (fun c => c.before args0 about1) = true
  refine all_split ?_ w_codes
  rw [← List.take_append_drop 24 words1, List.all_append, w_t1, ← List.take_append_drop 24 (words1.drop 24), List.all_append, w_t2, w_t3]
  rfl
set_option maxRecDepth 65536 in
theorem w_case : (Jvm.Cond.and given_1 narrow_1).before args0 about1 = true := by decide +kernel
theorem w_applies : (headSpec (Jvm.Cond.code x code maxLocals ret :: tables_1) room_1).applies x e0.platform about1 = true :=
  (Spec.applies_iff w_frames).mpr ⟨w_running, w_runnable, w_alone, w_named, w_hears, w_ripe, w_room, w_tables⟩
theorem atStart : AtStart classFile x code maxLocals ret World_1 tables_1 room_1 Calls_1 rest_1 Pre_1 launch0 p0 e0 about1 theMethod args0 below0 :=
  ⟨lists_1, trivial, launch0.admits_env _ _ _, launch0.least_env, fairChoices_fair.cas, fairChoices_fair.clock, w_frames, w_args, w_heap, w_applies, trivial, trivial, w_case⟩
end start1
theorem witness_1 : WitnessClaimed_1 := ⟨start1.p0, start1.e0, start1.about1, start1.theMethod, start1.args0, start1.below0, start1.atStart⟩
end Jvm.Pilot.@@N@@
