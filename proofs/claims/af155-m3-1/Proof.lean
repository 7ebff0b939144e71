import JvmDerived
import JvmDerived.Pilot.@@N@@Statement
import JvmDerived.Pilot.@@N@@Code
set_option linter.unusedVariables false
set_option linter.unusedSimpArgs false
namespace Jvm.Pilot.@@N@@
open Jvm Jvm.ClassFile Sem Op Lib Jvm.Free Jvm.Stand Jvm.LawKit Jvm.RoadKit Bundle Jvm.Pilot.@@N@@.Jvm.D
section OwnArr
variable {p : Program} {l : Launch} {e : Env} {R : Room} {s : State} {m : MethodId} {args : Array Value} {below : List Frame} {meth : Method} {c : Code} {T : State} {locs : List Loc} {cells slots : Nat} {Z : State} {a0 : Array Value} {h : Heap} {a : Addr} {k : ClassId} {z : Int32} {vs : List Value} {dv : Value}
theorem own_ldB (X : Stand p l e R s m args below meth c T locs cells slots) (hx : p.tables.exec = Jvm.exec) (hZ : Z.Warmed39 s.vm) (eT : T.heap = h) (F : Arv Z h a k .byte z vs dv) {j : Int32} (q : ¬ j < 0 ∧ j < z) {v : Value} (u : vs.getD j.toNatClampNeg dv = v) {g : JFrame} (hg : g.method = m) {rest : List Value} (hs : g.stack = .int j :: .ref a :: rest) (hd : decode c.code g.pc = .ok (.baload, 1)) :
    Steps p.tables e below (T.setTop g) (T.setTop { g with pc := g.pc + 1, stack := v :: rest }) := by
  obtain ⟨cl, A, q1, S, N, H, G⟩ := F
  have hin := inb_of S q
  exact X.baloadBytes hx (by rw [eT]; exact A.1) (State.isArrayOf_alike hZ.alike A.2.1) A.2.2 hin (H.at hin u) hg hs hd _ (Steps.refl _)
theorem own_ldI (X : Stand p l e R s m args below meth c T locs cells slots) (hx : p.tables.exec = Jvm.exec) (hZ : Z.Warmed39 s.vm) (eT : T.heap = h) (F : Arv Z h a k .int z vs dv) {j : Int32} (q : ¬ j < 0 ∧ j < z) {v : Value} (u : vs.getD j.toNatClampNeg dv = v) {g : JFrame} (hg : g.method = m) {rest : List Value} (hs : g.stack = .int j :: .ref a :: rest) (hd : decode c.code g.pc = .ok (.iaload, 1)) :
    Steps p.tables e below (T.setTop g) (T.setTop { g with pc := g.pc + 1, stack := v :: rest }) := by
  obtain ⟨cl, A, q1, S, N, H, G⟩ := F
  have hin := inb_of S q
  exact X.iaload hx (by rw [eT]; exact A.1) (State.isArrayOf_alike hZ.alike A.2.1) A.2.2 hin (H.at hin u) hg hs hd _ (Steps.refl _)
theorem own_ldJ (X : Stand p l e R s m args below meth c T locs cells slots) (hx : p.tables.exec = Jvm.exec) (hZ : Z.Warmed39 s.vm) (eT : T.heap = h) (F : Arv Z h a k .long z vs dv) {j : Int32} (q : ¬ j < 0 ∧ j < z) {v : Value} (u : vs.getD j.toNatClampNeg dv = v) {g : JFrame} (hg : g.method = m) {rest : List Value} (hs : g.stack = .int j :: .ref a :: rest) (hd : decode c.code g.pc = .ok (.laload, 1)) :
    Steps p.tables e below (T.setTop g) (T.setTop { g with pc := g.pc + 1, stack := v :: rest }) := by
  obtain ⟨cl, A, q1, S, N, H, G⟩ := F
  have hin := inb_of S q
  exact X.laload hx (by rw [eT]; exact A.1) (State.isArrayOf_alike hZ.alike A.2.1) A.2.2 hin (H.at hin u) hg hs hd _ (Steps.refl _)
theorem own_len {ty : FieldType} (X : Stand p l e R s m args below meth c T locs cells slots) (hx : p.tables.exec = Jvm.exec) (hZ : Z.Warmed39 s.vm) (eT : T.heap = h) (F : Arv Z h a k ty z vs dv) {g : JFrame} (hg : g.method = m) {rest : List Value} (hs : g.stack = .ref a :: rest) (hd : decode c.code g.pc = .ok (.arraylength, 1)) :
    Steps p.tables e below (T.setTop g) (T.setTop { g with pc := g.pc + 1, stack := .int z :: rest }) := by
  obtain ⟨cl, A, q1, S, N, H, G⟩ := F
  have q := X.arraylength hx (by rw [eT]; exact A.1) (State.isArrayOf_alike hZ.alike A.2.1) hg hs hd _ (Steps.refl _)
  rw [len_of S N] at q
  exact q
theorem own_stB (X : Stand p l e R s m args below meth c T locs cells slots) (hx : p.tables.exec = Jvm.exec) (hZ : Z.Warmed39 s.vm) (eT : T.heap = h) (F : Arv Z h a k .byte z vs dv) {j x : Int32} (q : ¬ j < 0 ∧ j < z) (i : Nat) (hj : j.toNatClampNeg = i) (hi : i < vs.length) {g : JFrame} (hg : g.method = m) {rest : List Value} (hs : g.stack = .int x :: .int j :: .ref a :: rest) (hd : decode c.code g.pc = .ok (.bastore, 1)) :
    ∃ T' h', Stand p l e R s m args below meth c T' (locs ++ [⟨a, j.toNatClampNeg⟩]) cells slots ∧ T'.heap = h' ∧ Wr h h' a j.toNatClampNeg (.int (x.toInt8.toInt32)) ∧ Arv Z h' a k .byte z (vs.set i (.int (x.toInt8.toInt32))) dv ∧ Steps p.tables e below (T.setTop g) (T'.setTop { g with pc := g.pc + 1, stack := rest }) := by
  obtain ⟨cl, A, q1, S, N, H, G⟩ := F
  have hin := inb_of S q
  obtain ⟨T', h', X', e', W, st⟩ := stB X hx hZ eT A hin hg hs hd
  exact ⟨T', h', X', e', W, Arv.set A q1 S N H G (fits_nar_byte _) W i hj hi, st _ (Steps.refl _)⟩
theorem own_stI (X : Stand p l e R s m args below meth c T locs cells slots) (hx : p.tables.exec = Jvm.exec) (hZ : Z.Warmed39 s.vm) (eT : T.heap = h) (F : Arv Z h a k .int z vs dv) {j x : Int32} (q : ¬ j < 0 ∧ j < z) (i : Nat) (hj : j.toNatClampNeg = i) (hi : i < vs.length) {g : JFrame} (hg : g.method = m) {rest : List Value} (hs : g.stack = .int x :: .int j :: .ref a :: rest) (hd : decode c.code g.pc = .ok (.iastore, 1)) :
    ∃ T' h', Stand p l e R s m args below meth c T' (locs ++ [⟨a, j.toNatClampNeg⟩]) cells slots ∧ T'.heap = h' ∧ Wr h h' a j.toNatClampNeg (.int x) ∧ Arv Z h' a k .int z (vs.set i (.int x)) dv ∧ Steps p.tables e below (T.setTop g) (T'.setTop { g with pc := g.pc + 1, stack := rest }) := by
  obtain ⟨cl, A, q1, S, N, H, G⟩ := F
  have hin := inb_of S q
  obtain ⟨T', h', X', e', W, st⟩ := stI X hx hZ eT A hin hg hs hd
  exact ⟨T', h', X', e', W, Arv.set A q1 S N H G rfl W i hj hi, st _ (Steps.refl _)⟩
theorem own_stJ (X : Stand p l e R s m args below meth c T locs cells slots) (hx : p.tables.exec = Jvm.exec) (hZ : Z.Warmed39 s.vm) (eT : T.heap = h) (F : Arv Z h a k .long z vs dv) {j : Int32} {x : Int64} (q : ¬ j < 0 ∧ j < z) (i : Nat) (hj : j.toNatClampNeg = i) (hi : i < vs.length) {g : JFrame} (hg : g.method = m) {rest : List Value} (hs : g.stack = .long x :: .int j :: .ref a :: rest) (hd : decode c.code g.pc = .ok (.lastore, 1)) :
    ∃ T' h', Stand p l e R s m args below meth c T' (locs ++ [⟨a, j.toNatClampNeg⟩]) cells slots ∧ T'.heap = h' ∧ Wr h h' a j.toNatClampNeg (.long x) ∧ Arv Z h' a k .long z (vs.set i (.long x)) dv ∧ Steps p.tables e below (T.setTop g) (T'.setTop { g with pc := g.pc + 1, stack := rest }) := by
  obtain ⟨cl, A, q1, S, N, H, G⟩ := F
  have hin := inb_of S q
  obtain ⟨T', h', X', e', W, st⟩ := stJ X hx hZ eT A hin hg hs hd
  exact ⟨T', h', X', e', W, Arv.set A q1 S N H G rfl W i hj hi, st _ (Steps.refl _)⟩
theorem own_newB (X : Stand p l e R s m args below meth c T locs cells slots) (hx : p.tables.exec = Jvm.exec) (hZ : Z.Warmed39 s.vm) (w : (Jvm.Cond.arrayClass .byte).before a0 Z = true) (eT : T.heap = h) {g : JFrame} (hg : g.method = m) (hd : decode c.code g.pc = .ok (.newarray .byte, 2)) {n : Int32} {rest : List Value} (hs : g.stack = .int n :: rest)
    (hn : ¬ n < 0) (N : Nat) (hcap : n.toNatClampNeg ≤ N) (hb : N * 8 ≤ 536870912) (hc : cells + 1 ≤ R.cells) (hl : slots + N ≤ R.slots) :
    ∃ T' h' k x, Stand p l e R s m args below meth c T' locs (cells + 1) (slots + N) ∧ T'.heap = h' ∧ Ext h h' ∧ x = h.size ∧ Arv Z h' x k .byte n (List.replicate N (.int (0 : Int32))) (.int (0 : Int32)) ∧ Exa Z h' x "[B" ∧ Steps p.tables e below (T.setTop g) (T'.setTop { g with pc := g.pc + 2, stack := .ref x :: rest }) := by
  obtain ⟨T', h', k, X', e', E, A, Ex, st⟩ := newPE (aty := .byte) X hx hZ w eT hg hd hs hn hcap hb hc hl (ad := "[B") (by decide)
  exact ⟨T', h', k, _, X', e', E, rfl, (Arv.new A hn).pad (pad_rep [] _ N), Ex, st _ (Steps.refl _)⟩
theorem own_newI (X : Stand p l e R s m args below meth c T locs cells slots) (hx : p.tables.exec = Jvm.exec) (hZ : Z.Warmed39 s.vm) (w : (Jvm.Cond.arrayClass .int).before a0 Z = true) (eT : T.heap = h) {g : JFrame} (hg : g.method = m) (hd : decode c.code g.pc = .ok (.newarray .int, 2)) {n : Int32} {rest : List Value} (hs : g.stack = .int n :: rest)
    (hn : ¬ n < 0) (N : Nat) (hcap : n.toNatClampNeg ≤ N) (hb : N * 8 ≤ 536870912) (hc : cells + 1 ≤ R.cells) (hl : slots + N ≤ R.slots) :
    ∃ T' h' k x, Stand p l e R s m args below meth c T' locs (cells + 1) (slots + N) ∧ T'.heap = h' ∧ Ext h h' ∧ x = h.size ∧ Arv Z h' x k .int n (List.replicate N (.int (0 : Int32))) (.int (0 : Int32)) ∧ Exa Z h' x "[I" ∧ Steps p.tables e below (T.setTop g) (T'.setTop { g with pc := g.pc + 2, stack := .ref x :: rest }) := by
  obtain ⟨T', h', k, X', e', E, A, Ex, st⟩ := newPE (aty := .int) X hx hZ w eT hg hd hs hn hcap hb hc hl (ad := "[I") (by decide)
  exact ⟨T', h', k, _, X', e', E, rfl, (Arv.new A hn).pad (pad_rep [] _ N), Ex, st _ (Steps.refl _)⟩
theorem own_newJ (X : Stand p l e R s m args below meth c T locs cells slots) (hx : p.tables.exec = Jvm.exec) (hZ : Z.Warmed39 s.vm) (w : (Jvm.Cond.arrayClass .long).before a0 Z = true) (eT : T.heap = h) {g : JFrame} (hg : g.method = m) (hd : decode c.code g.pc = .ok (.newarray .long, 2)) {n : Int32} {rest : List Value} (hs : g.stack = .int n :: rest)
    (hn : ¬ n < 0) (N : Nat) (hcap : n.toNatClampNeg ≤ N) (hb : N * 8 ≤ 536870912) (hc : cells + 1 ≤ R.cells) (hl : slots + N ≤ R.slots) :
    ∃ T' h' k x, Stand p l e R s m args below meth c T' locs (cells + 1) (slots + N) ∧ T'.heap = h' ∧ Ext h h' ∧ x = h.size ∧ Arv Z h' x k .long n (List.replicate N (.long (0 : Int64))) (.long (0 : Int64)) ∧ Exa Z h' x "[J" ∧ Steps p.tables e below (T.setTop g) (T'.setTop { g with pc := g.pc + 2, stack := .ref x :: rest }) := by
  obtain ⟨T', h', k, X', e', E, A, Ex, st⟩ := newPE (aty := .long) X hx hZ w eT hg hd hs hn hcap hb hc hl (ad := "[J") (by decide)
  exact ⟨T', h', k, _, X', e', E, rfl, (Arv.new A hn).pad (pad_rep [] _ N), Ex, st _ (Steps.refl _)⟩
end OwnArr
def own_cp (N z : Nat) (vs : List Value) (d : Value) : List Value := (List.replicate N d).take 0 ++ ((List.range z).map fun jx => vs.getD (0 + jx) d) ++ (List.replicate N d).drop (0 + z)
theorem own_cp_len (N z : Nat) (vs : List Value) (d : Value) (h : z ≤ N) : (own_cp N z vs d).length = N := by simp [own_cp]; omega
theorem own_and3 (p : Int32) : (p &&& (3 : Int32)) = (0 : Int32) ∨ (p &&& (3 : Int32)) = (1 : Int32) ∨ (p &&& (3 : Int32)) = (2 : Int32) ∨ (p &&& (3 : Int32)) = (3 : Int32) := by
  have h := Jvm.RoadKit.c_mask p (3 : Int32) 2 (by decide) (by decide)
  have e : ∀ z : Int32, (p &&& (3 : Int32)).toInt = z.toInt → (p &&& (3 : Int32)) = z := fun z q => Int32.toInt_inj.mp q
  have h' : (p &&& (3 : Int32)).toInt = 0 ∨ (p &&& (3 : Int32)).toInt = 1 ∨ (p &&& (3 : Int32)).toInt = 2 ∨ (p &&& (3 : Int32)).toInt = 3 := by omega
  rcases h' with h' | h' | h' | h'
  · exact Or.inl (e _ h')
  · exact Or.inr (Or.inl (e _ h'))
  · exact Or.inr (Or.inr (Or.inl (e _ h')))
  · exact Or.inr (Or.inr (Or.inr (e _ h')))
theorem own_b01 {c : Prop} [Decidable c] {v : Int32} (h : (if c then (0 : Int32) else (1 : Int32)) = v) : v = (0 : Int32) ∨ v = (1 : Int32) := by
  by_cases q : c
  · rw [if_pos q] at h; exact Or.inl h.symm
  · rw [if_neg q] at h; exact Or.inr h.symm
theorem own_bitT {f t : Int32} (hf : f = (0 : Int32) ∨ f = (1 : Int32)) (ht : t = (0 : Int32) ∨ t = (1 : Int32)) : ((if (((((if f = (0 : Int32) then (0 : Int32) else (1 : Int32)) ||| (if t = (0 : Int32) then (0 : Int32) else (2 : Int32))).toInt8.toInt32).toInt8.toInt32) &&& (2 : Int32)) = (0 : Int32) then (0 : Int32) else (1 : Int32)) &&& 1) = t := by
  rcases hf with rfl | rfl <;> rcases ht with rfl | rfl <;> decide
theorem own_bitF {f t : Int32} (hf : f = (0 : Int32) ∨ f = (1 : Int32)) (ht : t = (0 : Int32) ∨ t = (1 : Int32)) : ((if (((((if f = (0 : Int32) then (0 : Int32) else (1 : Int32)) ||| (if t = (0 : Int32) then (0 : Int32) else (2 : Int32))).toInt8.toInt32).toInt8.toInt32) &&& (1 : Int32)) = (0 : Int32) then (0 : Int32) else (1 : Int32)) &&& 1) = f := by
  rcases hf with rfl | rfl <;> rcases ht with rfl | rfl <;> decide
theorem d4_0 : decode jdk_29_method_65_code 0 = .ok (.iload_n 0, 1) := by decide +kernel
theorem d4_1 : decode jdk_29_method_65_code 1 = .ok (.iload_n 1, 1) := by decide +kernel
theorem d4_2 : decode jdk_29_method_65_code 2 = .ok (.if_icmp .lt 7, 3) := by decide +kernel
theorem d4_9 : decode jdk_29_method_65_code 9 = .ok (.iload_n 1, 1) := by decide +kernel
theorem d4_5 : decode jdk_29_method_65_code 5 = .ok (.iload_n 0, 1) := by decide +kernel
theorem d4_6 : decode jdk_29_method_65_code 6 = .ok (.goto 4, 3) := by decide +kernel
def Q_rm4 (Z : State) (p0 : Int32) (p1 : Int32) (h0 : Heap) (n0 : Nat) (v : Option Value) (h : Heap) (L : List Loc) : Prop := v = some (.int (if p0 < p1 then p1 else p0)) ∧ Fr n0 L ∧ h = h0
theorem ef_4 (m : MethodId) (x0 : Int32) (x1 : Int32) : entryFrame m #[(.int x0), (.int x1)] 2 = mkF m 0 #[.val (.int x0), .val (.int x1)] [] := by first | (simp [entryFrame, mkF, argsToLocals, Value.category]; done) | rfl
theorem d4_10 : decode jdk_29_method_65_code 10 = .ok (.ireturn, 1) := by decide +kernel
set_option maxRecDepth 65536 in
set_option maxHeartbeats 40000000 in
theorem rm4 (l : Launch) (Z : State) (a0 : Array Value) (hw : ∀ d ∈ tables_1, d.before a0 Z = true) (ws : List Jvm.Cond) (p0 : Int32) (p1 : Int32) (h0 : Heap) (n0 : Nat) (Z0 : n0 ≤ h0.size) :
    MetFree l (⟨"java/lang/Math", "max", "(II)I"⟩ : MethodName) (head1 (Jvm.Cond.code (⟨"java/lang/Math", "max", "(II)I"⟩ : MethodName) jdk_29_method_65_code 2 (some .int) :: ws) ({ frames := 0, cells := 0, slots := 0, locals := 0 } : Room)) (fun a U => a = #[(.int p0), (.int p1)] ∧ Z.Warmed39 U.vm ∧ U.heap = h0) (fun _ _ _ _ _ => True) (fun _ U o U' => ∃ v L, o = .returned v ∧ Q_rm4 Z p0 p1 h0 n0 v U'.heap L ∧ FrameEnd U o U' L ({ frames := 0, cells := 0, slots := 0, locals := 0 } : Room).cells ({ frames := 0, cells := 0, slots := 0, locals := 0 } : Room).slots) := by
  refine MetFree.of_bodySF (Jvm.Free.JP.mathPlain rfl (by decide +kernel)) hisR ?_
  intro p e s m args below meth c s₁ Bd hml0 hP hK
  obtain ⟨rfl, hZ, hh⟩ := hP
  have hx := Bd.exec
  have hby := Bd.bytes
  have hml : c.maxLocals = 2 := hml0
  have hown : s.vm.findClass "java/lang/Math" = some m.cls := findClass_of_methodNamed Bd.named
  have hnm := (name_of_methodNamed Bd.named Bd.method).1
  have X0 : Stand p l e ({ frames := 0, cells := 0, slots := 0, locals := 0 } : Room) s m #[(.int p0), (.int p1)] below meth c s₁ [] 0 0 := Stand.of_body Bd
  have e0 : s₁.heap = h0 := by rw [← hh, Bd.state]; rfl
  have N0 := Fr.nil n0
  have Kp0 : Keep h0 h0 [] := Keep.refl _ _
  have K0 : Steps p.tables e below (s₁.setTop (entryFrame m #[(.int p0), (.int p1)] 2)) (s₁.setTop (mkF m 0 #[.val (.int p0), .val (.int p1)] [])) := castTop (ef_4 m p0 p1) (Steps.refl _)
  have K1 : Steps p.tables e below _ (s₁.setTop (mkF m 2 #[.val (.int p0), .val (.int p1)] [(.int p1), (.int p0)])) := K0.trans (by
    show Steps p.tables e below (s₁.setTop (mkF m 0 #[.val (.int p0), .val (.int p1)] [])) _
    refine XS.iloadN X0.here hx rfl (hb hby d4_0) rfl ?_
    show Steps p.tables e below (s₁.setTop (mkF m 1 #[.val (.int p0), .val (.int p1)] [(.int p0)])) _
    refine XS.iloadN X0.here hx rfl (hb hby d4_1) rfl ?_
    show Steps p.tables e below (s₁.setTop (mkF m 2 #[.val (.int p0), .val (.int p1)] [(.int p1), (.int p0)])) _
    exact Steps.refl _)
  obtain ⟨v2_0, hv2_0, S2⟩ : ∃ (v2_0 : Int32), (if p0 < p1 then p1 else p0) = v2_0 ∧ Steps p.tables e below (s₁.setTop (mkF m 2 #[.val (.int p0), .val (.int p1)] [(.int p1), (.int p0)])) (s₁.setTop (mkF m 10 #[.val (.int p0), .val (.int p1)] [(.int v2_0)])) := by
    have R2 : Steps p.tables e below (s₁.setTop (mkF m 2 #[.val (.int p0), .val (.int p1)] [(.int p1), (.int p0)])) (s₁.setTop (mkF m 2 #[.val (.int p0), .val (.int p1)] [(.int p1), (.int p0)])) := Steps.refl _
    by_cases hc2 : p0 < p1
    · have K3 : Steps p.tables e below _ (s₁.setTop (mkF m 10 #[.val (.int p0), .val (.int p1)] [(.int p1)])) := R2.trans (by
        show Steps p.tables e below (s₁.setTop (mkF m 2 #[.val (.int p0), .val (.int p1)] [(.int p1), (.int p0)])) _
        refine XS.icmpYes X0.here hx rfl (pc0 := 2) (pc' := 9) rfl (hb hby d4_2) rfl (tlt hc2).1 (by decide) (by decide) ?_
        show Steps p.tables e below (s₁.setTop (mkF m 9 #[.val (.int p0), .val (.int p1)] [])) _
        refine XS.iloadN X0.here hx rfl (hb hby d4_9) rfl ?_
        show Steps p.tables e below (s₁.setTop (mkF m 10 #[.val (.int p0), .val (.int p1)] [(.int p1)])) _
        exact Steps.refl _)
      exact ⟨p1, (by rw [if_pos hc2]), K3⟩
    · have K4 : Steps p.tables e below _ (s₁.setTop (mkF m 10 #[.val (.int p0), .val (.int p1)] [(.int p0)])) := R2.trans (by
        show Steps p.tables e below (s₁.setTop (mkF m 2 #[.val (.int p0), .val (.int p1)] [(.int p1), (.int p0)])) _
        refine XS.icmpNo X0.here hx rfl (hb hby d4_2) rfl (flt hc2).1 ?_
        show Steps p.tables e below (s₁.setTop (mkF m 5 #[.val (.int p0), .val (.int p1)] [])) _
        refine XS.iloadN X0.here hx rfl (hb hby d4_5) rfl ?_
        show Steps p.tables e below (s₁.setTop (mkF m 6 #[.val (.int p0), .val (.int p1)] [(.int p0)])) _
        refine XS.goto X0.here hx rfl (pc0 := 6) (pc' := 10) rfl (hb hby d4_6) (by decide) (by decide) ?_
        show Steps p.tables e below (s₁.setTop (mkF m 10 #[.val (.int p0), .val (.int p1)] [(.int p0)])) _
        exact Steps.refl _)
      exact ⟨p0, (by rw [if_neg hc2]), K4⟩
  have K5 := K1.trans S2
  subst hv2_0
  obtain ⟨fs, hr, hrun, hended, hW, hsame⟩ := X0.leave (v := some (.int (if p0 < p1 then p1 else p0))) (fun h => by rw [Bd.returns] at h; cases h)
  refine ⟨_, _, K5.trans (retOut X0 hx Bd.returns rfl (Or.inl ⟨rfl, Or.inl rfl, _, rfl⟩) (hb hby d4_10) hr), hrun, hended, _, _, rfl, ?_, ⟨_, rfl⟩, hW, hsame.mono (by decide) (by first | decide | omega)⟩
  show Q_rm4 Z p0 p1 h0 n0 _ s₁.heap _
  rw [e0]
  exact ⟨rfl, N0, rfl⟩
theorem d6_0 : decode jdk_29_method_69_code 0 = .ok (.iload_n 0, 1) := by decide +kernel
theorem d6_1 : decode jdk_29_method_69_code 1 = .ok (.iload_n 1, 1) := by decide +kernel
theorem d6_2 : decode jdk_29_method_69_code 2 = .ok (.if_icmp .gt 7, 3) := by decide +kernel
theorem d6_9 : decode jdk_29_method_69_code 9 = .ok (.iload_n 1, 1) := by decide +kernel
theorem d6_5 : decode jdk_29_method_69_code 5 = .ok (.iload_n 0, 1) := by decide +kernel
theorem d6_6 : decode jdk_29_method_69_code 6 = .ok (.goto 4, 3) := by decide +kernel
def Q_rm6 (Z : State) (p0 : Int32) (p1 : Int32) (h0 : Heap) (n0 : Nat) (v : Option Value) (h : Heap) (L : List Loc) : Prop := v = some (.int (if p1 < p0 then p1 else p0)) ∧ Fr n0 L ∧ h = h0
theorem ef_6 (m : MethodId) (x0 : Int32) (x1 : Int32) : entryFrame m #[(.int x0), (.int x1)] 2 = mkF m 0 #[.val (.int x0), .val (.int x1)] [] := by first | (simp [entryFrame, mkF, argsToLocals, Value.category]; done) | rfl
theorem d6_10 : decode jdk_29_method_69_code 10 = .ok (.ireturn, 1) := by decide +kernel
set_option maxRecDepth 65536 in
set_option maxHeartbeats 40000000 in
theorem rm6 (l : Launch) (Z : State) (a0 : Array Value) (hw : ∀ d ∈ tables_1, d.before a0 Z = true) (ws : List Jvm.Cond) (p0 : Int32) (p1 : Int32) (h0 : Heap) (n0 : Nat) (Z0 : n0 ≤ h0.size) :
    MetFree l (⟨"java/lang/Math", "min", "(II)I"⟩ : MethodName) (head1 (Jvm.Cond.code (⟨"java/lang/Math", "min", "(II)I"⟩ : MethodName) jdk_29_method_69_code 2 (some .int) :: ws) ({ frames := 0, cells := 0, slots := 0, locals := 0 } : Room)) (fun a U => a = #[(.int p0), (.int p1)] ∧ Z.Warmed39 U.vm ∧ U.heap = h0) (fun _ _ _ _ _ => True) (fun _ U o U' => ∃ v L, o = .returned v ∧ Q_rm6 Z p0 p1 h0 n0 v U'.heap L ∧ FrameEnd U o U' L ({ frames := 0, cells := 0, slots := 0, locals := 0 } : Room).cells ({ frames := 0, cells := 0, slots := 0, locals := 0 } : Room).slots) := by
  refine MetFree.of_bodySF (Jvm.Free.JP.mathPlain rfl (by decide +kernel)) hisR ?_
  intro p e s m args below meth c s₁ Bd hml0 hP hK
  obtain ⟨rfl, hZ, hh⟩ := hP
  have hx := Bd.exec
  have hby := Bd.bytes
  have hml : c.maxLocals = 2 := hml0
  have hown : s.vm.findClass "java/lang/Math" = some m.cls := findClass_of_methodNamed Bd.named
  have hnm := (name_of_methodNamed Bd.named Bd.method).1
  have X0 : Stand p l e ({ frames := 0, cells := 0, slots := 0, locals := 0 } : Room) s m #[(.int p0), (.int p1)] below meth c s₁ [] 0 0 := Stand.of_body Bd
  have e0 : s₁.heap = h0 := by rw [← hh, Bd.state]; rfl
  have N0 := Fr.nil n0
  have Kp0 : Keep h0 h0 [] := Keep.refl _ _
  have K0 : Steps p.tables e below (s₁.setTop (entryFrame m #[(.int p0), (.int p1)] 2)) (s₁.setTop (mkF m 0 #[.val (.int p0), .val (.int p1)] [])) := castTop (ef_6 m p0 p1) (Steps.refl _)
  have K1 : Steps p.tables e below _ (s₁.setTop (mkF m 2 #[.val (.int p0), .val (.int p1)] [(.int p1), (.int p0)])) := K0.trans (by
    show Steps p.tables e below (s₁.setTop (mkF m 0 #[.val (.int p0), .val (.int p1)] [])) _
    refine XS.iloadN X0.here hx rfl (hb hby d6_0) rfl ?_
    show Steps p.tables e below (s₁.setTop (mkF m 1 #[.val (.int p0), .val (.int p1)] [(.int p0)])) _
    refine XS.iloadN X0.here hx rfl (hb hby d6_1) rfl ?_
    show Steps p.tables e below (s₁.setTop (mkF m 2 #[.val (.int p0), .val (.int p1)] [(.int p1), (.int p0)])) _
    exact Steps.refl _)
  obtain ⟨v2_0, hv2_0, S2⟩ : ∃ (v2_0 : Int32), (if p1 < p0 then p1 else p0) = v2_0 ∧ Steps p.tables e below (s₁.setTop (mkF m 2 #[.val (.int p0), .val (.int p1)] [(.int p1), (.int p0)])) (s₁.setTop (mkF m 10 #[.val (.int p0), .val (.int p1)] [(.int v2_0)])) := by
    have R2 : Steps p.tables e below (s₁.setTop (mkF m 2 #[.val (.int p0), .val (.int p1)] [(.int p1), (.int p0)])) (s₁.setTop (mkF m 2 #[.val (.int p0), .val (.int p1)] [(.int p1), (.int p0)])) := Steps.refl _
    by_cases hc2 : p1 < p0
    · have K3 : Steps p.tables e below _ (s₁.setTop (mkF m 10 #[.val (.int p0), .val (.int p1)] [(.int p1)])) := R2.trans (by
        show Steps p.tables e below (s₁.setTop (mkF m 2 #[.val (.int p0), .val (.int p1)] [(.int p1), (.int p0)])) _
        refine XS.icmpYes X0.here hx rfl (pc0 := 2) (pc' := 9) rfl (hb hby d6_2) rfl (tlt hc2).2.2.1 (by decide) (by decide) ?_
        show Steps p.tables e below (s₁.setTop (mkF m 9 #[.val (.int p0), .val (.int p1)] [])) _
        refine XS.iloadN X0.here hx rfl (hb hby d6_9) rfl ?_
        show Steps p.tables e below (s₁.setTop (mkF m 10 #[.val (.int p0), .val (.int p1)] [(.int p1)])) _
        exact Steps.refl _)
      exact ⟨p1, (by rw [if_pos hc2]), K3⟩
    · have K4 : Steps p.tables e below _ (s₁.setTop (mkF m 10 #[.val (.int p0), .val (.int p1)] [(.int p0)])) := R2.trans (by
        show Steps p.tables e below (s₁.setTop (mkF m 2 #[.val (.int p0), .val (.int p1)] [(.int p1), (.int p0)])) _
        refine XS.icmpNo X0.here hx rfl (hb hby d6_2) rfl (flt hc2).2.2.1 ?_
        show Steps p.tables e below (s₁.setTop (mkF m 5 #[.val (.int p0), .val (.int p1)] [])) _
        refine XS.iloadN X0.here hx rfl (hb hby d6_5) rfl ?_
        show Steps p.tables e below (s₁.setTop (mkF m 6 #[.val (.int p0), .val (.int p1)] [(.int p0)])) _
        refine XS.goto X0.here hx rfl (pc0 := 6) (pc' := 10) rfl (hb hby d6_6) (by decide) (by decide) ?_
        show Steps p.tables e below (s₁.setTop (mkF m 10 #[.val (.int p0), .val (.int p1)] [(.int p0)])) _
        exact Steps.refl _)
      exact ⟨p0, (by rw [if_neg hc2]), K4⟩
  have K5 := K1.trans S2
  subst hv2_0
  obtain ⟨fs, hr, hrun, hended, hW, hsame⟩ := X0.leave (v := some (.int (if p1 < p0 then p1 else p0))) (fun h => by rw [Bd.returns] at h; cases h)
  refine ⟨_, _, K5.trans (retOut X0 hx Bd.returns rfl (Or.inl ⟨rfl, Or.inl rfl, _, rfl⟩) (hb hby d6_10) hr), hrun, hended, _, _, rfl, ?_, ⟨_, rfl⟩, hW, hsame.mono (by decide) (by first | decide | omega)⟩
  show Q_rm6 Z p0 p1 h0 n0 _ s₁.heap _
  rw [e0]
  exact ⟨rfl, N0, rfl⟩
theorem d1_0 : decode prog_13_method_1_code 0 = .ok (.aload_n 0, 1) := by decide +kernel
theorem d1_1 : decode prog_13_method_1_code 1 = .ok (.invokespecial 1, 3) := by decide +kernel
theorem d1_4 : decode prog_13_method_1_code 4 = .ok (.aload_n 0, 1) := by decide +kernel
theorem d1_5 : decode prog_13_method_1_code 5 = .ok (.iload_n 1, 1) := by decide +kernel
theorem d1_6 : decode prog_13_method_1_code 6 = .ok (.newarray .long, 2) := by decide +kernel
theorem d1_8 : decode prog_13_method_1_code 8 = .ok (.putfield 7, 3) := by decide +kernel
theorem d1_11 : decode prog_13_method_1_code 11 = .ok (.aload_n 0, 1) := by decide +kernel
theorem d1_12 : decode prog_13_method_1_code 12 = .ok (.iload_n 1, 1) := by decide +kernel
theorem d1_13 : decode prog_13_method_1_code 13 = .ok (.newarray .long, 2) := by decide +kernel
theorem d1_15 : decode prog_13_method_1_code 15 = .ok (.putfield 13, 3) := by decide +kernel
theorem d1_18 : decode prog_13_method_1_code 18 = .ok (.aload_n 0, 1) := by decide +kernel
theorem d1_19 : decode prog_13_method_1_code 19 = .ok (.iload_n 1, 1) := by decide +kernel
theorem d1_20 : decode prog_13_method_1_code 20 = .ok (.newarray .byte, 2) := by decide +kernel
theorem d1_22 : decode prog_13_method_1_code 22 = .ok (.putfield 16, 3) := by decide +kernel
def Q_rm1 (Z : State) (o0 : Addr) (p1 : Int32) (w_size : Int32) (u3_froms : Value) (u4_tos : Value) (u5_ends : Value) (h0 : Heap) (n0 : Nat) (v : Option Value) (h : Heap) (L : List Loc) : Prop := ∃ b5 : Addr, ∃ b12 : Addr, ∃ b23 : Addr, ∃ k5 : ClassId, ∃ k12 : ClassId, ∃ k23 : ClassId, v = none ∧ Fr n0 L ∧ Keep h0 h [o0] ∧ Exa Z h o0 "com/example/spanfold/spanfold/RangeList" ∧ Fld Z h o0 "com/example/spanfold/spanfold/RangeList" "size" "I" (.int w_size) ∧ Arv Z h b5 k5 .long p1 (List.replicate 3 (.long (0 : Int64))) (.long (0 : Int64)) ∧ Exa Z h b5 "[J" ∧ Fld Z h o0 "com/example/spanfold/spanfold/RangeList" "froms" "[J" (.ref b5) ∧ Arv Z h b12 k12 .long p1 (List.replicate 3 (.long (0 : Int64))) (.long (0 : Int64)) ∧ Exa Z h b12 "[J" ∧ Fld Z h o0 "com/example/spanfold/spanfold/RangeList" "tos" "[J" (.ref b12) ∧ Arv Z h b23 k23 .byte p1 (List.replicate 3 (.int (0 : Int32))) (.int (0 : Int32)) ∧ Exa Z h b23 "[B" ∧ Fld Z h o0 "com/example/spanfold/spanfold/RangeList" "ends" "[B" (.ref b23) ∧ h0.size ≤ b5 ∧ h0.size ≤ b12 ∧ h0.size ≤ b23 ∧ b5 ≠ b12 ∧ b5 ≠ b23 ∧ b12 ≠ b23
theorem pn_1 : plainName "com/example/spanfold/spanfold/RangeList" = true := by first | (simp [plainName, overriddenIn]; done) | decide +kernel
theorem ef_1 (m : MethodId) (x0 : Addr) (x1 : Int32) : entryFrame m #[(.ref x0), (.int x1)] 2 = mkF m 0 #[.val (.ref x0), .val (.int x1)] [] := by first | (simp [entryFrame, mkF, argsToLocals, Value.category]; done) | rfl
theorem d1_25 : decode prog_13_method_1_code 25 = .ok (.return_, 1) := by decide +kernel
set_option maxRecDepth 65536 in
set_option maxHeartbeats 40000000 in
theorem rm1 (l : Launch) (Z : State) (a0 : Array Value) (hw : ∀ d ∈ tables_1, d.before a0 Z = true) (ws : List Jvm.Cond) (o0 : Addr) (p1 : Int32) (w_size : Int32) (u3_froms : Value) (u4_tos : Value) (u5_ends : Value) (h0 : Heap) (n0 : Nat) (Z0 : n0 ≤ h0.size) (E_o0 : Exa Z h0 o0 "com/example/spanfold/spanfold/RangeList") (F_size_o0 : Fld Z h0 o0 "com/example/spanfold/spanfold/RangeList" "size" "I" (.int w_size)) (g_o0 : n0 ≤ o0) (hp : ¬ (p1 < (0 : Int32)) ∧ p1.toNatClampNeg ≤ 3) (F_froms_o0 : Fld Z h0 o0 "com/example/spanfold/spanfold/RangeList" "froms" "[J" u3_froms) (F_tos_o0 : Fld Z h0 o0 "com/example/spanfold/spanfold/RangeList" "tos" "[J" u4_tos) (F_ends_o0 : Fld Z h0 o0 "com/example/spanfold/spanfold/RangeList" "ends" "[B" u5_ends) :
    MetFree l (⟨"com/example/spanfold/spanfold/RangeList", "<init>", "(I)V"⟩ : MethodName) (head1 (Jvm.Cond.code (⟨"com/example/spanfold/spanfold/RangeList", "<init>", "(I)V"⟩ : MethodName) prog_13_method_1_code 2 none :: ws) ({ frames := 1, cells := 3, slots := 9, locals := 12 } : Room)) (fun a U => a = #[(.ref o0), (.int p1)] ∧ Z.Warmed39 U.vm ∧ U.heap = h0) (fun _ _ _ _ _ => True) (fun _ U o U' => ∃ v L, o = .returned v ∧ Q_rm1 Z o0 p1 w_size u3_froms u4_tos u5_ends h0 n0 v U'.heap L ∧ FrameEnd U o U' L ({ frames := 1, cells := 3, slots := 9, locals := 12 } : Room).cells ({ frames := 1, cells := 3, slots := 9, locals := 12 } : Room).slots) := by
  refine MetFree.of_bodySF (plainFor_of_name pn_1) hisR ?_
  intro p e s m args below meth c s₁ Bd hml0 hP hK
  obtain ⟨rfl, hZ, hh⟩ := hP
  have hx := Bd.exec
  have hby := Bd.bytes
  have hml : c.maxLocals = 2 := hml0
  have hown : s.vm.findClass "com/example/spanfold/spanfold/RangeList" = some m.cls := findClass_of_methodNamed Bd.named
  have hnm := (name_of_methodNamed Bd.named Bd.method).1
  have X0 : Stand p l e ({ frames := 1, cells := 3, slots := 9, locals := 12 } : Room) s m #[(.ref o0), (.int p1)] below meth c s₁ [] 0 0 := Stand.of_body Bd
  have e0 : s₁.heap = h0 := by rw [← hh, Bd.state]; rfl
  have N0 := Fr.nil n0
  have Kp0 : Keep h0 h0 [o0] := Keep.refl _ _
  have K0 : Steps p.tables e below (s₁.setTop (entryFrame m #[(.ref o0), (.int p1)] 2)) (s₁.setTop (mkF m 0 #[.val (.ref o0), .val (.int p1)] [])) := castTop (ef_1 m o0 p1) (Steps.refl _)
  have K1 : Steps p.tables e below _ (s₁.setTop (mkF m 1 #[.val (.ref o0), .val (.int p1)] [(.ref o0)])) := K0.trans (by
    show Steps p.tables e below (s₁.setTop (mkF m 0 #[.val (.ref o0), .val (.int p1)] [])) _
    refine XS.aloadN X0.here hx rfl (hb hby d1_0) rfl rfl ?_
    show Steps p.tables e below (s₁.setTop (mkF m 1 #[.val (.ref o0), .val (.int p1)] [(.ref o0)])) _
    exact Steps.refl _)
  obtain ⟨T2, X2, e2, st2⟩ := initO X0 hx hZ hown (hw _ (List.mem_of_getElem? (i := 6) rfl)) (hw _ (List.mem_of_getElem? (i := 7) rfl)) (hw _ (List.mem_of_getElem? (i := 8) rfl)) e0 (g := (mkF m 1 #[.val (.ref o0), .val (.int p1)] [(.ref o0)])) rfl (by rw [hml]; rfl) rfl (hb hby d1_1) (by decide) (W := 0) (by show 2 * 0 + _ ≤ _; exact Nat.le_of_eq rfl) (by decide)
  have K3 : Steps p.tables e below _ (T2.setTop (mkF m 4 #[.val (.ref o0), .val (.int p1)] [])) := K1.trans (st2 _ (Steps.refl _))
  have K4 : Steps p.tables e below _ (T2.setTop (mkF m 6 #[.val (.ref o0), .val (.int p1)] [(.int p1), (.ref o0)])) := K3.trans (by
    show Steps p.tables e below (T2.setTop (mkF m 4 #[.val (.ref o0), .val (.int p1)] [])) _
    refine XS.aloadN X2.here hx rfl (hb hby d1_4) rfl rfl ?_
    show Steps p.tables e below (T2.setTop (mkF m 5 #[.val (.ref o0), .val (.int p1)] [(.ref o0)])) _
    refine XS.iloadN X2.here hx rfl (hb hby d1_5) rfl ?_
    show Steps p.tables e below (T2.setTop (mkF m 6 #[.val (.ref o0), .val (.int p1)] [(.int p1), (.ref o0)])) _
    exact Steps.refl _)
  obtain ⟨T5, h5, k5, b5, X5, e5, E5, g5, V5, A5, st5⟩ := own_newJ X2 hx hZ (hw _ (List.mem_of_getElem? (i := 9) rfl)) e2 (g := (mkF m 6 #[.val (.ref o0), .val (.int p1)] [(.int p1), (.ref o0)])) rfl (hb hby d1_6) rfl hp.1 3 hp.2 (by decide) (by decide) (by decide)
  have ne_o0_b5 : o0 ≠ b5 := Nat.ne_of_lt (Nat.lt_of_lt_of_le E_o0.lt (Nat.le_of_eq g5.symm))
  have ge_b5 : n0 ≤ b5 := Nat.le_trans Z0 (Nat.le_of_eq g5.symm)
  have sz_b5 : h0.size ≤ b5 := Nat.le_trans Kp0.1 (Nat.le_of_eq g5.symm)
  have K6 : Steps p.tables e below _ (T5.setTop (mkF m 8 #[.val (.ref o0), .val (.int p1)] [(.ref b5), (.ref o0)])) := K4.trans st5
  have Vn5 : Arv Z h5 b5 k5 .long p1 (List.replicate 3 (.long (0 : Int64))) (.long (0 : Int64)) := V5
  have E_7 : Exa Z h5 o0 "com/example/spanfold/spanfold/RangeList" := (E_o0.ext E5)
  have F_8 : Fld Z h5 o0 "com/example/spanfold/spanfold/RangeList" "froms" "[J" u3_froms := (F_froms_o0.ext E5)
  obtain ⟨T9, h9, X9, e9, W9, st9⟩ := putF X5 hx hZ hown (host := "") (Or.inl (hw _ (List.mem_of_getElem? (i := 10) rfl))) Via.refl e5 F_8 E_7 (Or.inl (hw _ (List.mem_of_getElem? (i := 11) rfl))) (hw _ (List.mem_of_getElem? (i := 1) rfl)) (ty := (.array .long)) (by decide) rfl rfl (g := (mkF m 8 #[.val (.ref o0), .val (.int p1)] [(.ref b5), (.ref o0)])) rfl rfl (hb hby d1_8)
  have K10 : Steps p.tables e below _ (T9.setTop (mkF m 11 #[.val (.ref o0), .val (.int p1)] [])) := K6.trans (st9 _ (Steps.refl _))
  have Fw9 : Fld Z h9 o0 "com/example/spanfold/spanfold/RangeList" "froms" "[J" (.ref b5) := F_8.same W9
  have N9 := Fr.snoc X9 N0 g_o0
  have K11 : Steps p.tables e below _ (T9.setTop (mkF m 13 #[.val (.ref o0), .val (.int p1)] [(.int p1), (.ref o0)])) := K10.trans (by
    show Steps p.tables e below (T9.setTop (mkF m 11 #[.val (.ref o0), .val (.int p1)] [])) _
    refine XS.aloadN X9.here hx rfl (hb hby d1_11) rfl rfl ?_
    show Steps p.tables e below (T9.setTop (mkF m 12 #[.val (.ref o0), .val (.int p1)] [(.ref o0)])) _
    refine XS.iloadN X9.here hx rfl (hb hby d1_12) rfl ?_
    show Steps p.tables e below (T9.setTop (mkF m 13 #[.val (.ref o0), .val (.int p1)] [(.int p1), (.ref o0)])) _
    exact Steps.refl _)
  have Z_13 : n0 ≤ h9.size := (Nat.le_trans (Nat.le_trans Z0 E5.1) (Keep.of_wr W9).1)
  have K_14 : Keep h0 h9 [o0] := ((Kp0.ext E5).wr W9 (Or.inl (List.mem_of_getElem? (i := 0) rfl)))
  obtain ⟨T12, h12, k12, b12, X12, e12, E12, g12, V12, A12, st12⟩ := own_newJ X9 hx hZ (hw _ (List.mem_of_getElem? (i := 9) rfl)) e9 (g := (mkF m 13 #[.val (.ref o0), .val (.int p1)] [(.int p1), (.ref o0)])) rfl (hb hby d1_13) rfl hp.1 3 hp.2 (by decide) (by decide) (by decide)
  have E_15 : Exa Z h9 o0 "com/example/spanfold/spanfold/RangeList" := (E_7.wr W9)
  have ne_o0_b12 : o0 ≠ b12 := Nat.ne_of_lt (Nat.lt_of_lt_of_le E_15.lt (Nat.le_of_eq g12.symm))
  have V_16 : Arv Z h9 b5 k5 .long p1 (List.replicate 3 (.long (0 : Int64))) (.long (0 : Int64)) := (Vn5.other W9 (Ne.symm ne_o0_b5))
  have ne_b5_b12 : b5 ≠ b12 := Nat.ne_of_lt (Nat.lt_of_lt_of_le V_16.lt (Nat.le_of_eq g12.symm))
  have ge_b12 : n0 ≤ b12 := Nat.le_trans Z_13 (Nat.le_of_eq g12.symm)
  have sz_b12 : h0.size ≤ b12 := Nat.le_trans K_14.1 (Nat.le_of_eq g12.symm)
  have K17 : Steps p.tables e below _ (T12.setTop (mkF m 15 #[.val (.ref o0), .val (.int p1)] [(.ref b12), (.ref o0)])) := K11.trans st12
  have Vn12 : Arv Z h12 b12 k12 .long p1 (List.replicate 3 (.long (0 : Int64))) (.long (0 : Int64)) := V12
  have E_18 : Exa Z h12 o0 "com/example/spanfold/spanfold/RangeList" := (E_15.ext E12)
  have F_19 : Fld Z h12 o0 "com/example/spanfold/spanfold/RangeList" "tos" "[J" u4_tos := (((F_tos_o0.ext E5).other W9 (Or.inr (slot_ne (Or.inl (hw _ (List.mem_of_getElem? (i := 13) rfl))) (Or.inl (hw _ (List.mem_of_getElem? (i := 11) rfl))) (by decide) (t := (.array .long)) (t' := (.array .long)) (by decide) (by decide)))).ext E12)
  obtain ⟨T20, h20, X20, e20, W20, st20⟩ := putF X12 hx hZ hown (host := "") (Or.inl (hw _ (List.mem_of_getElem? (i := 12) rfl))) Via.refl e12 F_19 E_18 (Or.inl (hw _ (List.mem_of_getElem? (i := 13) rfl))) (hw _ (List.mem_of_getElem? (i := 1) rfl)) (ty := (.array .long)) (by decide) rfl rfl (g := (mkF m 15 #[.val (.ref o0), .val (.int p1)] [(.ref b12), (.ref o0)])) rfl rfl (hb hby d1_15)
  have K21 : Steps p.tables e below _ (T20.setTop (mkF m 18 #[.val (.ref o0), .val (.int p1)] [])) := K17.trans (st20 _ (Steps.refl _))
  have Fw20 : Fld Z h20 o0 "com/example/spanfold/spanfold/RangeList" "tos" "[J" (.ref b12) := F_19.same W20
  have N20 := Fr.snoc X20 N9 g_o0
  have K22 : Steps p.tables e below _ (T20.setTop (mkF m 20 #[.val (.ref o0), .val (.int p1)] [(.int p1), (.ref o0)])) := K21.trans (by
    show Steps p.tables e below (T20.setTop (mkF m 18 #[.val (.ref o0), .val (.int p1)] [])) _
    refine XS.aloadN X20.here hx rfl (hb hby d1_18) rfl rfl ?_
    show Steps p.tables e below (T20.setTop (mkF m 19 #[.val (.ref o0), .val (.int p1)] [(.ref o0)])) _
    refine XS.iloadN X20.here hx rfl (hb hby d1_19) rfl ?_
    show Steps p.tables e below (T20.setTop (mkF m 20 #[.val (.ref o0), .val (.int p1)] [(.int p1), (.ref o0)])) _
    exact Steps.refl _)
  have Z_24 : n0 ≤ h20.size := (Nat.le_trans (Nat.le_trans Z_13 E12.1) (Keep.of_wr W20).1)
  have K_25 : Keep h0 h20 [o0] := ((K_14.ext E12).wr W20 (Or.inl (List.mem_of_getElem? (i := 0) rfl)))
  obtain ⟨T23, h23, k23, b23, X23, e23, E23, g23, V23, A23, st23⟩ := own_newB X20 hx hZ (hw _ (List.mem_of_getElem? (i := 14) rfl)) e20 (g := (mkF m 20 #[.val (.ref o0), .val (.int p1)] [(.int p1), (.ref o0)])) rfl (hb hby d1_20) rfl hp.1 3 hp.2 (by decide) (by decide) (by decide)
  have E_26 : Exa Z h20 o0 "com/example/spanfold/spanfold/RangeList" := (E_18.wr W20)
  have ne_o0_b23 : o0 ≠ b23 := Nat.ne_of_lt (Nat.lt_of_lt_of_le E_26.lt (Nat.le_of_eq g23.symm))
  have V_27 : Arv Z h20 b5 k5 .long p1 (List.replicate 3 (.long (0 : Int64))) (.long (0 : Int64)) := ((V_16.ext E12).other W20 (Ne.symm ne_o0_b5))
  have ne_b5_b23 : b5 ≠ b23 := Nat.ne_of_lt (Nat.lt_of_lt_of_le V_27.lt (Nat.le_of_eq g23.symm))
  have V_28 : Arv Z h20 b12 k12 .long p1 (List.replicate 3 (.long (0 : Int64))) (.long (0 : Int64)) := (Vn12.other W20 (Ne.symm ne_o0_b12))
  have ne_b12_b23 : b12 ≠ b23 := Nat.ne_of_lt (Nat.lt_of_lt_of_le V_28.lt (Nat.le_of_eq g23.symm))
  have ge_b23 : n0 ≤ b23 := Nat.le_trans Z_24 (Nat.le_of_eq g23.symm)
  have sz_b23 : h0.size ≤ b23 := Nat.le_trans K_25.1 (Nat.le_of_eq g23.symm)
  have K29 : Steps p.tables e below _ (T23.setTop (mkF m 22 #[.val (.ref o0), .val (.int p1)] [(.ref b23), (.ref o0)])) := K22.trans st23
  have Vn23 : Arv Z h23 b23 k23 .byte p1 (List.replicate 3 (.int (0 : Int32))) (.int (0 : Int32)) := V23
  have E_30 : Exa Z h23 o0 "com/example/spanfold/spanfold/RangeList" := (E_26.ext E23)
  have F_31 : Fld Z h23 o0 "com/example/spanfold/spanfold/RangeList" "ends" "[B" u5_ends := (((((F_ends_o0.ext E5).other W9 (Or.inr (slot_ne (Or.inl (hw _ (List.mem_of_getElem? (i := 16) rfl))) (Or.inl (hw _ (List.mem_of_getElem? (i := 11) rfl))) (by decide) (t := (.array .byte)) (t' := (.array .long)) (by decide) (by decide)))).ext E12).other W20 (Or.inr (slot_ne (Or.inl (hw _ (List.mem_of_getElem? (i := 16) rfl))) (Or.inl (hw _ (List.mem_of_getElem? (i := 13) rfl))) (by decide) (t := (.array .byte)) (t' := (.array .long)) (by decide) (by decide)))).ext E23)
  obtain ⟨T32, h32, X32, e32, W32, st32⟩ := putF X23 hx hZ hown (host := "") (Or.inl (hw _ (List.mem_of_getElem? (i := 15) rfl))) Via.refl e23 F_31 E_30 (Or.inl (hw _ (List.mem_of_getElem? (i := 16) rfl))) (hw _ (List.mem_of_getElem? (i := 1) rfl)) (ty := (.array .byte)) (by decide) rfl rfl (g := (mkF m 22 #[.val (.ref o0), .val (.int p1)] [(.ref b23), (.ref o0)])) rfl rfl (hb hby d1_22)
  have K33 : Steps p.tables e below _ (T32.setTop (mkF m 25 #[.val (.ref o0), .val (.int p1)] [])) := K29.trans (st32 _ (Steps.refl _))
  have Fw32 : Fld Z h32 o0 "com/example/spanfold/spanfold/RangeList" "ends" "[B" (.ref b23) := F_31.same W32
  have N32 := Fr.snoc X32 N20 g_o0
  obtain ⟨fs, hr, hrun, hended, hW, hsame⟩ := X32.leave (v := none) (fun _ => rfl)
  have K_34 : Keep h0 h32 [o0] := ((K_25.ext E23).wr W32 (Or.inl (List.mem_of_getElem? (i := 0) rfl)))
  have E_35 : Exa Z h32 o0 "com/example/spanfold/spanfold/RangeList" := (E_30.wr W32)
  have F_36 : Fld Z h32 o0 "com/example/spanfold/spanfold/RangeList" "size" "I" (.int w_size) := ((((((F_size_o0.ext E5).other W9 (Or.inr (slot_ne (Or.inl (hw _ (List.mem_of_getElem? (i := 23) rfl))) (Or.inl (hw _ (List.mem_of_getElem? (i := 11) rfl))) (by decide) (t := .int) (t' := (.array .long)) (by decide) (by decide)))).ext E12).other W20 (Or.inr (slot_ne (Or.inl (hw _ (List.mem_of_getElem? (i := 23) rfl))) (Or.inl (hw _ (List.mem_of_getElem? (i := 13) rfl))) (by decide) (t := .int) (t' := (.array .long)) (by decide) (by decide)))).ext E23).other W32 (Or.inr (slot_ne (Or.inl (hw _ (List.mem_of_getElem? (i := 23) rfl))) (Or.inl (hw _ (List.mem_of_getElem? (i := 16) rfl))) (by decide) (t := .int) (t' := (.array .byte)) (by decide) (by decide))))
  have V_37 : Arv Z h32 b5 k5 .long p1 (List.replicate 3 (.long (0 : Int64))) (.long (0 : Int64)) := ((V_27.ext E23).other W32 (Ne.symm ne_o0_b5))
  have E_38 : Exa Z h32 b5 "[J" := (((((A5.wr W9).ext E12).wr W20).ext E23).wr W32)
  have F_39 : Fld Z h32 o0 "com/example/spanfold/spanfold/RangeList" "froms" "[J" (.ref b5) := ((((Fw9.ext E12).other W20 (Or.inr (slot_ne (Or.inl (hw _ (List.mem_of_getElem? (i := 11) rfl))) (Or.inl (hw _ (List.mem_of_getElem? (i := 13) rfl))) (by decide) (t := (.array .long)) (t' := (.array .long)) (by decide) (by decide)))).ext E23).other W32 (Or.inr (slot_ne (Or.inl (hw _ (List.mem_of_getElem? (i := 11) rfl))) (Or.inl (hw _ (List.mem_of_getElem? (i := 16) rfl))) (by decide) (t := (.array .long)) (t' := (.array .byte)) (by decide) (by decide))))
  have V_40 : Arv Z h32 b12 k12 .long p1 (List.replicate 3 (.long (0 : Int64))) (.long (0 : Int64)) := ((V_28.ext E23).other W32 (Ne.symm ne_o0_b12))
  have E_41 : Exa Z h32 b12 "[J" := (((A12.wr W20).ext E23).wr W32)
  have F_42 : Fld Z h32 o0 "com/example/spanfold/spanfold/RangeList" "tos" "[J" (.ref b12) := ((Fw20.ext E23).other W32 (Or.inr (slot_ne (Or.inl (hw _ (List.mem_of_getElem? (i := 13) rfl))) (Or.inl (hw _ (List.mem_of_getElem? (i := 16) rfl))) (by decide) (t := (.array .long)) (t' := (.array .byte)) (by decide) (by decide))))
  have V_43 : Arv Z h32 b23 k23 .byte p1 (List.replicate 3 (.int (0 : Int32))) (.int (0 : Int32)) := (Vn23.other W32 (Ne.symm ne_o0_b23))
  have E_44 : Exa Z h32 b23 "[B" := (A23.wr W32)
  refine ⟨_, _, K33.trans (X32.returnOut hx Bd.returns (hb hby d1_25) hr), hrun, hended, _, _, rfl, ?_, ⟨_, rfl⟩, hW, hsame.mono (by decide) (by first | decide | omega)⟩
  show Q_rm1 Z o0 p1 w_size u3_froms u4_tos u5_ends h0 n0 _ T32.heap _
  rw [e32]
  exact ⟨b5, b12, b23, k5, k12, k23, rfl, N32, K_34, E_35, F_36, V_37, E_38, F_39, V_40, E_41, F_42, V_43, E_44, Fw32, sz_b5, sz_b12, sz_b23, ne_b5_b12, ne_b5_b23, ne_b12_b23⟩
theorem d5_0 : decode jdk_65_method_124_code 0 = .ok (.iload_n 1, 1) := by decide +kernel
theorem d5_1 : decode jdk_65_method_124_code 1 = .ok (.aload_n 0, 1) := by decide +kernel
theorem d5_2 : decode jdk_65_method_124_code 2 = .ok (.arraylength, 1) := by decide +kernel
theorem d5_3 : decode jdk_65_method_124_code 3 = .ok (.if_icmp .ne 11, 3) := by decide +kernel
theorem d5_14 : decode jdk_65_method_124_code 14 = .ok (.iload_n 1, 1) := by decide +kernel
theorem d5_15 : decode jdk_65_method_124_code 15 = .ok (.newarray .long, 2) := by decide +kernel
theorem d5_17 : decode jdk_65_method_124_code 17 = .ok (.astore_n 2, 1) := by decide +kernel
theorem d5_18 : decode jdk_65_method_124_code 18 = .ok (.aload_n 0, 1) := by decide +kernel
theorem d5_19 : decode jdk_65_method_124_code 19 = .ok (.iconst 0, 1) := by decide +kernel
theorem d5_20 : decode jdk_65_method_124_code 20 = .ok (.aload_n 2, 1) := by decide +kernel
theorem d5_21 : decode jdk_65_method_124_code 21 = .ok (.iconst 0, 1) := by decide +kernel
theorem d5_22 : decode jdk_65_method_124_code 22 = .ok (.aload_n 0, 1) := by decide +kernel
theorem d5_23 : decode jdk_65_method_124_code 23 = .ok (.arraylength, 1) := by decide +kernel
theorem d5_24 : decode jdk_65_method_124_code 24 = .ok (.iload_n 1, 1) := by decide +kernel
theorem pd_0 : parseMethodDescriptor "(II)I" = some ⟨[.int, .int], some .int⟩ := by decide +kernel
theorem d5_25 : decode jdk_65_method_124_code 25 = .ok (.invokestatic 304, 3) := by decide +kernel
theorem d5_28 : decode jdk_65_method_124_code 28 = .ok (.invokestatic 150, 3) := by decide +kernel
theorem d5_31 : decode jdk_65_method_124_code 31 = .ok (.aload_n 2, 1) := by decide +kernel
def Q_rm5 (Z : State) (o0 : Addr) (k0 : ClassId) (z0 : Int32) (vs0 : List Value) (h0 : Heap) (n0 : Nat) (v : Option Value) (h : Heap) (L : List Loc) : Prop := ∃ b4 : Addr, ∃ k4 : ClassId, v = some (.ref b4) ∧ Fr n0 L ∧ Keep h0 h [] ∧ Exa Z h b4 "[J" ∧ Arv Z h b4 k4 .long (8 : Int32) (own_cp 8 z0.toNatClampNeg vs0 (.long (0 : Int64))) (.long (0 : Int64)) ∧ h0.size ≤ b4
theorem pn_5 : plainName "java/util/Arrays" = true := by first | (simp [plainName, overriddenIn]; done) | decide +kernel
theorem ef_5c1_8Int32 (m : MethodId) (x0 : Addr) : entryFrame m #[(.ref x0), (.int (8 : Int32))] 3 = mkF m 0 #[.val (.ref x0), .val (.int (8 : Int32)), .unset] [] := by first | (simp [entryFrame, mkF, argsToLocals, Value.category]; done) | rfl
theorem d5_32 : decode jdk_65_method_124_code 32 = .ok (.areturn, 1) := by decide +kernel
set_option maxRecDepth 65536 in
set_option maxHeartbeats 40000000 in
theorem rm5 (l : Launch) (Z : State) (a0 : Array Value) (hw : ∀ d ∈ tables_1, d.before a0 Z = true) (ws : List Jvm.Cond) (o0 : Addr) (k0 : ClassId) (z0 : Int32) (vs0 : List Value) (h0 : Heap) (n0 : Nat) (Z0 : n0 ≤ h0.size) (V_o0 : Arv Z h0 o0 k0 .long z0 vs0 (.long (0 : Int64))) (hz : ¬ (z0 < (0 : Int32)) ∧ z0 < (8 : Int32)) (hzn : z0.toNatClampNeg ≤ 8) :
    MetFree l (⟨"java/util/Arrays", "copyOf", "([JI)[J"⟩ : MethodName) (head1 (Jvm.Cond.code (⟨"java/util/Arrays", "copyOf", "([JI)[J"⟩ : MethodName) jdk_65_method_124_code 3 (some (.array .long)) :: ws) ({ frames := 1, cells := 1, slots := 8, locals := 36 } : Room)) (fun a U => a = #[(.ref o0), (.int (8 : Int32))] ∧ Z.Warmed39 U.vm ∧ U.heap = h0) (fun _ _ _ _ _ => True) (fun _ U o U' => ∃ v L, o = .returned v ∧ Q_rm5 Z o0 k0 z0 vs0 h0 n0 v U'.heap L ∧ FrameEnd U o U' L ({ frames := 1, cells := 1, slots := 8, locals := 36 } : Room).cells ({ frames := 1, cells := 1, slots := 8, locals := 36 } : Room).slots) := by
  refine MetFree.of_bodySF (plainFor_of_name pn_5) hisR ?_
  intro p e s m args below meth c s₁ Bd hml0 hP hK
  obtain ⟨rfl, hZ, hh⟩ := hP
  have hx := Bd.exec
  have hby := Bd.bytes
  have hml : c.maxLocals = 3 := hml0
  have hown : s.vm.findClass "java/util/Arrays" = some m.cls := findClass_of_methodNamed Bd.named
  have hnm := (name_of_methodNamed Bd.named Bd.method).1
  have X0 : Stand p l e ({ frames := 1, cells := 1, slots := 8, locals := 36 } : Room) s m #[(.ref o0), (.int (8 : Int32))] below meth c s₁ [] 0 0 := Stand.of_body Bd
  have e0 : s₁.heap = h0 := by rw [← hh, Bd.state]; rfl
  have N0 := Fr.nil n0
  have Kp0 : Keep h0 h0 [] := Keep.refl _ _
  have K0 : Steps p.tables e below (s₁.setTop (entryFrame m #[(.ref o0), (.int (8 : Int32))] 3)) (s₁.setTop (mkF m 0 #[.val (.ref o0), .val (.int (8 : Int32)), .unset] [])) := castTop (ef_5c1_8Int32 m o0) (Steps.refl _)
  have K2 : Steps p.tables e below _ (s₁.setTop (mkF m 3 #[.val (.ref o0), .val (.int (8 : Int32)), .unset] [(.int z0), (.int (8 : Int32))])) := K0.trans (by
    show Steps p.tables e below (s₁.setTop (mkF m 0 #[.val (.ref o0), .val (.int (8 : Int32)), .unset] [])) _
    refine XS.iloadN X0.here hx rfl (hb hby d5_0) rfl ?_
    show Steps p.tables e below (s₁.setTop (mkF m 1 #[.val (.ref o0), .val (.int (8 : Int32)), .unset] [(.int (8 : Int32))])) _
    refine XS.aloadN X0.here hx rfl (hb hby d5_1) rfl rfl ?_
    show Steps p.tables e below (s₁.setTop (mkF m 2 #[.val (.ref o0), .val (.int (8 : Int32)), .unset] [(.ref o0), (.int (8 : Int32))])) _
    refine (own_len X0 hx hZ e0 V_o0 (g := (mkF m 2 #[.val (.ref o0), .val (.int (8 : Int32)), .unset] [(.ref o0), (.int (8 : Int32))])) rfl rfl (hb hby d5_2)).trans ?_
    show Steps p.tables e below (s₁.setTop (mkF m 3 #[.val (.ref o0), .val (.int (8 : Int32)), .unset] [(.int z0), (.int (8 : Int32))])) _
    exact Steps.refl _)
  have hc3_0 : ¬ ((8 : Int32) = z0) := (fun q => absurd hz.2 (by rw [← q]; decide))
  have K3 : Steps p.tables e below _ (s₁.setTop (mkF m 15 #[.val (.ref o0), .val (.int (8 : Int32)), .unset] [(.int (8 : Int32))])) := K2.trans (by
    show Steps p.tables e below (s₁.setTop (mkF m 3 #[.val (.ref o0), .val (.int (8 : Int32)), .unset] [(.int z0), (.int (8 : Int32))])) _
    refine XS.icmpYes X0.here hx rfl (pc0 := 3) (pc' := 14) rfl (hb hby d5_3) rfl (feq hc3_0).2 (by decide) (by decide) ?_
    show Steps p.tables e below (s₁.setTop (mkF m 14 #[.val (.ref o0), .val (.int (8 : Int32)), .unset] [])) _
    refine XS.iloadN X0.here hx rfl (hb hby d5_14) rfl ?_
    show Steps p.tables e below (s₁.setTop (mkF m 15 #[.val (.ref o0), .val (.int (8 : Int32)), .unset] [(.int (8 : Int32))])) _
    exact Steps.refl _)
  obtain ⟨T4, h4, k4, b4, X4, e4, E4, g4, V4, A4, st4⟩ := own_newJ X0 hx hZ (hw _ (List.mem_of_getElem? (i := 9) rfl)) e0 (g := (mkF m 15 #[.val (.ref o0), .val (.int (8 : Int32)), .unset] [(.int (8 : Int32))])) rfl (hb hby d5_15) rfl (by decide) 8 (by decide) (by decide) (by decide) (by decide)
  have ne_o0_b4 : o0 ≠ b4 := Nat.ne_of_lt (Nat.lt_of_lt_of_le V_o0.lt (Nat.le_of_eq g4.symm))
  have ge_b4 : n0 ≤ b4 := Nat.le_trans Z0 (Nat.le_of_eq g4.symm)
  have sz_b4 : h0.size ≤ b4 := Nat.le_trans Kp0.1 (Nat.le_of_eq g4.symm)
  have K5 : Steps p.tables e below _ (T4.setTop (mkF m 17 #[.val (.ref o0), .val (.int (8 : Int32)), .unset] [(.ref b4)])) := K3.trans st4
  have Vn4 : Arv Z h4 b4 k4 .long (8 : Int32) [(.long (0 : Int64)), (.long (0 : Int64)), (.long (0 : Int64)), (.long (0 : Int64)), (.long (0 : Int64)), (.long (0 : Int64)), (.long (0 : Int64)), (.long (0 : Int64))] (.long (0 : Int64)) := V4
  have V_6 : Arv Z h4 o0 k0 .long z0 vs0 (.long (0 : Int64)) := (V_o0.ext E4)
  have K7 : Steps p.tables e below _ (T4.setTop (mkF m 25 #[.val (.ref o0), .val (.int (8 : Int32)), .val (.ref b4)] [(.int (8 : Int32)), (.int z0), (.int (0 : Int32)), (.ref b4), (.int (0 : Int32)), (.ref o0)])) := K5.trans (by
    show Steps p.tables e below (T4.setTop (mkF m 17 #[.val (.ref o0), .val (.int (8 : Int32)), .unset] [(.ref b4)])) _
    refine XS.astoreN X4.here hx rfl (hb hby d5_17) rfl rfl (l' := #[.val (.ref o0), .val (.int (8 : Int32)), .val (.ref b4)]) rfl ?_
    show Steps p.tables e below (T4.setTop (mkF m 18 #[.val (.ref o0), .val (.int (8 : Int32)), .val (.ref b4)] [])) _
    refine XS.aloadN X4.here hx rfl (hb hby d5_18) rfl rfl ?_
    show Steps p.tables e below (T4.setTop (mkF m 19 #[.val (.ref o0), .val (.int (8 : Int32)), .val (.ref b4)] [(.ref o0)])) _
    refine XS.iconst X4.here hx rfl (hb hby d5_19) ?_
    show Steps p.tables e below (T4.setTop (mkF m 20 #[.val (.ref o0), .val (.int (8 : Int32)), .val (.ref b4)] [(.int (0 : Int32)), (.ref o0)])) _
    refine XS.aloadN X4.here hx rfl (hb hby d5_20) rfl rfl ?_
    show Steps p.tables e below (T4.setTop (mkF m 21 #[.val (.ref o0), .val (.int (8 : Int32)), .val (.ref b4)] [(.ref b4), (.int (0 : Int32)), (.ref o0)])) _
    refine XS.iconst X4.here hx rfl (hb hby d5_21) ?_
    show Steps p.tables e below (T4.setTop (mkF m 22 #[.val (.ref o0), .val (.int (8 : Int32)), .val (.ref b4)] [(.int (0 : Int32)), (.ref b4), (.int (0 : Int32)), (.ref o0)])) _
    refine XS.aloadN X4.here hx rfl (hb hby d5_22) rfl rfl ?_
    show Steps p.tables e below (T4.setTop (mkF m 23 #[.val (.ref o0), .val (.int (8 : Int32)), .val (.ref b4)] [(.ref o0), (.int (0 : Int32)), (.ref b4), (.int (0 : Int32)), (.ref o0)])) _
    refine (own_len X4 hx hZ e4 V_6 (g := (mkF m 23 #[.val (.ref o0), .val (.int (8 : Int32)), .val (.ref b4)] [(.ref o0), (.int (0 : Int32)), (.ref b4), (.int (0 : Int32)), (.ref o0)])) rfl rfl (hb hby d5_23)).trans ?_
    show Steps p.tables e below (T4.setTop (mkF m 24 #[.val (.ref o0), .val (.int (8 : Int32)), .val (.ref b4)] [(.int z0), (.int (0 : Int32)), (.ref b4), (.int (0 : Int32)), (.ref o0)])) _
    refine XS.iloadN X4.here hx rfl (hb hby d5_24) rfl ?_
    show Steps p.tables e below (T4.setTop (mkF m 25 #[.val (.ref o0), .val (.int (8 : Int32)), .val (.ref b4)] [(.int (8 : Int32)), (.int z0), (.int (0 : Int32)), (.ref b4), (.int (0 : Int32)), (.ref o0)])) _
    exact Steps.refl _)
  have Z_8 : n0 ≤ h4.size := (Nat.le_trans Z0 E4.1)
  obtain ⟨_, _, ⟨T9, L9, k9, n9⟩, -, X9, ⟨Lc9, hQ9, l9, y9, z9⟩, st9⟩ := Jvm.LawKit.callS X4 hx (y := (⟨"java/lang/Math", "min", "(II)I"⟩ : MethodName)) hown (mvT hZ (hw _ (List.mem_of_getElem? (i := 32) rfl))) (mvT hZ (hw _ (List.mem_of_getElem? (i := 33) rfl))) (mvT hZ (hw _ (List.mem_of_getElem? (i := 26) rfl))) (mvT hZ (hw _ (List.mem_of_getElem? (i := 34) rfl))) (by decide) (backOf (W := 4) (rm6 l Z a0 hw [] z0 (8 : Int32) h4 n0 Z_8 ) hZ (hw _ (List.mem_of_getElem? (i := 34) rfl)) (hw _ (List.mem_of_getElem? (i := 26) rfl)) (by decide) (by decide)) (g := (mkF m 25 #[.val (.ref o0), .val (.int (8 : Int32)), .val (.ref b4)] [(.int (8 : Int32)), (.int z0), (.int (0 : Int32)), (.ref b4), (.int (0 : Int32)), (.ref o0)])) rfl (by rw [hml]; rfl) (argsL := [(.int z0), (.int (8 : Int32))]) (rest := [(.int (0 : Int32)), (.ref b4), (.int (0 : Int32)), (.ref o0)]) (lenOf pd_0 rfl) rfl (by show 2 * 0 + _ ≤ _; exact Nat.le_of_eq rfl) (hb hby d5_25) (fun _ _ => ⟨rfl, e4, (by decide : 1 + 0 ≤ _), (by decide : 8 + 0 ≤ _)⟩)
  dsimp only [Pt.U, Pt.locs, Pt.cells, Pt.slots] at X9 l9 y9 z9 st9 hQ9
  subst l9 y9 z9
  obtain ⟨rfl, N9, eh9⟩ := hQ9
  have N9' := Fr.app N0 N9
  have K10 : Steps p.tables e below _ (T9.setTop (mkF m 28 #[.val (.ref o0), .val (.int (8 : Int32)), .val (.ref b4)] [(.int (if (8 : Int32) < z0 then (8 : Int32) else z0)), (.int (0 : Int32)), (.ref b4), (.int (0 : Int32)), (.ref o0)])) := K7.trans (st9 _ (Steps.refl _))
  rw [show (if (8 : Int32) < z0 then (8 : Int32) else z0) = z0 from (if_neg (fun q => absurd (Int32.lt_trans q hz.2) (by decide)))] at K10
  obtain ⟨T11, h11, L11, X11, e11, N11, Kp11, V11, st11⟩ := cpA X9 hx hZ hown (hw _ (List.mem_of_getElem? (i := 35) rfl)) (hw _ (List.mem_of_getElem? (i := 38) rfl)) (hw _ (List.mem_of_getElem? (i := 36) rfl)) (hw _ (List.mem_of_getElem? (i := 37) rfl)) eh9 V_6 Vn4 (Or.inl ⟨rfl, rfl⟩) (us := ((List.range z0.toNatClampNeg).map fun jx => vs0.getD ((0 : Int32).toNatClampNeg + jx) (.long (0 : Int64)))) (sp := (0 : Int32)) (dp := (0 : Int32)) (nn := z0) (by decide) (by decide) hz.1 (by rw [show (0 : Int32).toNatClampNeg = 0 from rfl]; omega) (by rw [show (0 : Int32).toNatClampNeg = 0 from rfl, show (8 : Int32).toNatClampNeg = 8 from rfl]; omega) rfl (by rw [show (0 : Int32).toNatClampNeg = 0 from rfl]; simpa using hzn) N9' ge_b4 (g := (mkF m 28 #[.val (.ref o0), .val (.int (8 : Int32)), .val (.ref b4)] [(.int z0), (.int (0 : Int32)), (.ref b4), (.int (0 : Int32)), (.ref o0)])) rfl (by rw [hml]; rfl) (rest := []) rfl (hb hby d5_28) (by decide) (W := 0) (by show 2 * 0 + _ ≤ _; exact Nat.le_of_eq rfl) (by decide)
  have K12 : Steps p.tables e below _ (T11.setTop (mkF m 31 #[.val (.ref o0), .val (.int (8 : Int32)), .val (.ref b4)] [])) := K10.trans (st11 _ (Steps.refl _))
  have Vc11 : Arv Z h11 b4 k4 .long (8 : Int32) (own_cp 8 z0.toNatClampNeg vs0 (.long (0 : Int64))) (.long (0 : Int64)) := V11
  have K13 : Steps p.tables e below _ (T11.setTop (mkF m 32 #[.val (.ref o0), .val (.int (8 : Int32)), .val (.ref b4)] [(.ref b4)])) := K12.trans (by
    show Steps p.tables e below (T11.setTop (mkF m 31 #[.val (.ref o0), .val (.int (8 : Int32)), .val (.ref b4)] [])) _
    refine XS.aloadN X11.here hx rfl (hb hby d5_31) rfl rfl ?_
    show Steps p.tables e below (T11.setTop (mkF m 32 #[.val (.ref o0), .val (.int (8 : Int32)), .val (.ref b4)] [(.ref b4)])) _
    exact Steps.refl _)
  obtain ⟨fs, hr, hrun, hended, hW, hsame⟩ := X11.leave (v := some (.ref b4)) (fun h => by rw [Bd.returns] at h; cases h)
  have K_14 : Keep h0 h11 [] := ((Kp0.ext E4).trans Kp11 (allS (Or.inr sz_b4) all0))
  have E_15 : Exa Z h11 b4 "[J" := (A4.keep Kp11)
  refine ⟨_, _, K13.trans (retOut X11 hx Bd.returns rfl (Or.inr (Or.inr (Or.inr (Or.inr ⟨rfl, rfl, rfl⟩)))) (hb hby d5_32) hr), hrun, hended, _, _, rfl, ?_, ⟨_, rfl⟩, hW, hsame.mono (by decide) (by first | decide | omega)⟩
  show Q_rm5 Z o0 k0 z0 vs0 h0 n0 _ T11.heap _
  rw [e11]
  exact ⟨b4, k4, rfl, N11, K_14, E_15, Vc11, sz_b4⟩
theorem d7_0 : decode jdk_65_method_121_code 0 = .ok (.iload_n 1, 1) := by decide +kernel
theorem d7_1 : decode jdk_65_method_121_code 1 = .ok (.aload_n 0, 1) := by decide +kernel
theorem d7_2 : decode jdk_65_method_121_code 2 = .ok (.arraylength, 1) := by decide +kernel
theorem d7_3 : decode jdk_65_method_121_code 3 = .ok (.if_icmp .ne 11, 3) := by decide +kernel
theorem d7_14 : decode jdk_65_method_121_code 14 = .ok (.iload_n 1, 1) := by decide +kernel
theorem d7_15 : decode jdk_65_method_121_code 15 = .ok (.newarray .byte, 2) := by decide +kernel
theorem d7_17 : decode jdk_65_method_121_code 17 = .ok (.astore_n 2, 1) := by decide +kernel
theorem d7_18 : decode jdk_65_method_121_code 18 = .ok (.aload_n 0, 1) := by decide +kernel
theorem d7_19 : decode jdk_65_method_121_code 19 = .ok (.iconst 0, 1) := by decide +kernel
theorem d7_20 : decode jdk_65_method_121_code 20 = .ok (.aload_n 2, 1) := by decide +kernel
theorem d7_21 : decode jdk_65_method_121_code 21 = .ok (.iconst 0, 1) := by decide +kernel
theorem d7_22 : decode jdk_65_method_121_code 22 = .ok (.aload_n 0, 1) := by decide +kernel
theorem d7_23 : decode jdk_65_method_121_code 23 = .ok (.arraylength, 1) := by decide +kernel
theorem d7_24 : decode jdk_65_method_121_code 24 = .ok (.iload_n 1, 1) := by decide +kernel
theorem d7_25 : decode jdk_65_method_121_code 25 = .ok (.invokestatic 304, 3) := by decide +kernel
theorem d7_28 : decode jdk_65_method_121_code 28 = .ok (.invokestatic 150, 3) := by decide +kernel
theorem d7_31 : decode jdk_65_method_121_code 31 = .ok (.aload_n 2, 1) := by decide +kernel
def Q_rm7 (Z : State) (o0 : Addr) (k0 : ClassId) (z0 : Int32) (vs0 : List Value) (h0 : Heap) (n0 : Nat) (v : Option Value) (h : Heap) (L : List Loc) : Prop := ∃ b4 : Addr, ∃ k4 : ClassId, v = some (.ref b4) ∧ Fr n0 L ∧ Keep h0 h [] ∧ Exa Z h b4 "[B" ∧ Arv Z h b4 k4 .byte (8 : Int32) (own_cp 8 z0.toNatClampNeg vs0 (.int (0 : Int32))) (.int (0 : Int32)) ∧ h0.size ≤ b4
theorem pn_7 : plainName "java/util/Arrays" = true := by first | (simp [plainName, overriddenIn]; done) | decide +kernel
theorem ef_7c1_8Int32 (m : MethodId) (x0 : Addr) : entryFrame m #[(.ref x0), (.int (8 : Int32))] 3 = mkF m 0 #[.val (.ref x0), .val (.int (8 : Int32)), .unset] [] := by first | (simp [entryFrame, mkF, argsToLocals, Value.category]; done) | rfl
theorem d7_32 : decode jdk_65_method_121_code 32 = .ok (.areturn, 1) := by decide +kernel
set_option maxRecDepth 65536 in
set_option maxHeartbeats 40000000 in
theorem rm7 (l : Launch) (Z : State) (a0 : Array Value) (hw : ∀ d ∈ tables_1, d.before a0 Z = true) (ws : List Jvm.Cond) (o0 : Addr) (k0 : ClassId) (z0 : Int32) (vs0 : List Value) (h0 : Heap) (n0 : Nat) (Z0 : n0 ≤ h0.size) (V_o0 : Arv Z h0 o0 k0 .byte z0 vs0 (.int (0 : Int32))) (hz : ¬ (z0 < (0 : Int32)) ∧ z0 < (8 : Int32)) (hzn : z0.toNatClampNeg ≤ 8) :
    MetFree l (⟨"java/util/Arrays", "copyOf", "([BI)[B"⟩ : MethodName) (head1 (Jvm.Cond.code (⟨"java/util/Arrays", "copyOf", "([BI)[B"⟩ : MethodName) jdk_65_method_121_code 3 (some (.array .byte)) :: ws) ({ frames := 1, cells := 1, slots := 8, locals := 36 } : Room)) (fun a U => a = #[(.ref o0), (.int (8 : Int32))] ∧ Z.Warmed39 U.vm ∧ U.heap = h0) (fun _ _ _ _ _ => True) (fun _ U o U' => ∃ v L, o = .returned v ∧ Q_rm7 Z o0 k0 z0 vs0 h0 n0 v U'.heap L ∧ FrameEnd U o U' L ({ frames := 1, cells := 1, slots := 8, locals := 36 } : Room).cells ({ frames := 1, cells := 1, slots := 8, locals := 36 } : Room).slots) := by
  refine MetFree.of_bodySF (plainFor_of_name pn_7) hisR ?_
  intro p e s m args below meth c s₁ Bd hml0 hP hK
  obtain ⟨rfl, hZ, hh⟩ := hP
  have hx := Bd.exec
  have hby := Bd.bytes
  have hml : c.maxLocals = 3 := hml0
  have hown : s.vm.findClass "java/util/Arrays" = some m.cls := findClass_of_methodNamed Bd.named
  have hnm := (name_of_methodNamed Bd.named Bd.method).1
  have X0 : Stand p l e ({ frames := 1, cells := 1, slots := 8, locals := 36 } : Room) s m #[(.ref o0), (.int (8 : Int32))] below meth c s₁ [] 0 0 := Stand.of_body Bd
  have e0 : s₁.heap = h0 := by rw [← hh, Bd.state]; rfl
  have N0 := Fr.nil n0
  have Kp0 : Keep h0 h0 [] := Keep.refl _ _
  have K0 : Steps p.tables e below (s₁.setTop (entryFrame m #[(.ref o0), (.int (8 : Int32))] 3)) (s₁.setTop (mkF m 0 #[.val (.ref o0), .val (.int (8 : Int32)), .unset] [])) := castTop (ef_7c1_8Int32 m o0) (Steps.refl _)
  have K2 : Steps p.tables e below _ (s₁.setTop (mkF m 3 #[.val (.ref o0), .val (.int (8 : Int32)), .unset] [(.int z0), (.int (8 : Int32))])) := K0.trans (by
    show Steps p.tables e below (s₁.setTop (mkF m 0 #[.val (.ref o0), .val (.int (8 : Int32)), .unset] [])) _
    refine XS.iloadN X0.here hx rfl (hb hby d7_0) rfl ?_
    show Steps p.tables e below (s₁.setTop (mkF m 1 #[.val (.ref o0), .val (.int (8 : Int32)), .unset] [(.int (8 : Int32))])) _
    refine XS.aloadN X0.here hx rfl (hb hby d7_1) rfl rfl ?_
    show Steps p.tables e below (s₁.setTop (mkF m 2 #[.val (.ref o0), .val (.int (8 : Int32)), .unset] [(.ref o0), (.int (8 : Int32))])) _
    refine (own_len X0 hx hZ e0 V_o0 (g := (mkF m 2 #[.val (.ref o0), .val (.int (8 : Int32)), .unset] [(.ref o0), (.int (8 : Int32))])) rfl rfl (hb hby d7_2)).trans ?_
    show Steps p.tables e below (s₁.setTop (mkF m 3 #[.val (.ref o0), .val (.int (8 : Int32)), .unset] [(.int z0), (.int (8 : Int32))])) _
    exact Steps.refl _)
  have hc3_0 : ¬ ((8 : Int32) = z0) := (fun q => absurd hz.2 (by rw [← q]; decide))
  have K3 : Steps p.tables e below _ (s₁.setTop (mkF m 15 #[.val (.ref o0), .val (.int (8 : Int32)), .unset] [(.int (8 : Int32))])) := K2.trans (by
    show Steps p.tables e below (s₁.setTop (mkF m 3 #[.val (.ref o0), .val (.int (8 : Int32)), .unset] [(.int z0), (.int (8 : Int32))])) _
    refine XS.icmpYes X0.here hx rfl (pc0 := 3) (pc' := 14) rfl (hb hby d7_3) rfl (feq hc3_0).2 (by decide) (by decide) ?_
    show Steps p.tables e below (s₁.setTop (mkF m 14 #[.val (.ref o0), .val (.int (8 : Int32)), .unset] [])) _
    refine XS.iloadN X0.here hx rfl (hb hby d7_14) rfl ?_
    show Steps p.tables e below (s₁.setTop (mkF m 15 #[.val (.ref o0), .val (.int (8 : Int32)), .unset] [(.int (8 : Int32))])) _
    exact Steps.refl _)
  obtain ⟨T4, h4, k4, b4, X4, e4, E4, g4, V4, A4, st4⟩ := own_newB X0 hx hZ (hw _ (List.mem_of_getElem? (i := 14) rfl)) e0 (g := (mkF m 15 #[.val (.ref o0), .val (.int (8 : Int32)), .unset] [(.int (8 : Int32))])) rfl (hb hby d7_15) rfl (by decide) 8 (by decide) (by decide) (by decide) (by decide)
  have ne_o0_b4 : o0 ≠ b4 := Nat.ne_of_lt (Nat.lt_of_lt_of_le V_o0.lt (Nat.le_of_eq g4.symm))
  have ge_b4 : n0 ≤ b4 := Nat.le_trans Z0 (Nat.le_of_eq g4.symm)
  have sz_b4 : h0.size ≤ b4 := Nat.le_trans Kp0.1 (Nat.le_of_eq g4.symm)
  have K5 : Steps p.tables e below _ (T4.setTop (mkF m 17 #[.val (.ref o0), .val (.int (8 : Int32)), .unset] [(.ref b4)])) := K3.trans st4
  have Vn4 : Arv Z h4 b4 k4 .byte (8 : Int32) [(.int (0 : Int32)), (.int (0 : Int32)), (.int (0 : Int32)), (.int (0 : Int32)), (.int (0 : Int32)), (.int (0 : Int32)), (.int (0 : Int32)), (.int (0 : Int32))] (.int (0 : Int32)) := V4
  have V_6 : Arv Z h4 o0 k0 .byte z0 vs0 (.int (0 : Int32)) := (V_o0.ext E4)
  have K7 : Steps p.tables e below _ (T4.setTop (mkF m 25 #[.val (.ref o0), .val (.int (8 : Int32)), .val (.ref b4)] [(.int (8 : Int32)), (.int z0), (.int (0 : Int32)), (.ref b4), (.int (0 : Int32)), (.ref o0)])) := K5.trans (by
    show Steps p.tables e below (T4.setTop (mkF m 17 #[.val (.ref o0), .val (.int (8 : Int32)), .unset] [(.ref b4)])) _
    refine XS.astoreN X4.here hx rfl (hb hby d7_17) rfl rfl (l' := #[.val (.ref o0), .val (.int (8 : Int32)), .val (.ref b4)]) rfl ?_
    show Steps p.tables e below (T4.setTop (mkF m 18 #[.val (.ref o0), .val (.int (8 : Int32)), .val (.ref b4)] [])) _
    refine XS.aloadN X4.here hx rfl (hb hby d7_18) rfl rfl ?_
    show Steps p.tables e below (T4.setTop (mkF m 19 #[.val (.ref o0), .val (.int (8 : Int32)), .val (.ref b4)] [(.ref o0)])) _
    refine XS.iconst X4.here hx rfl (hb hby d7_19) ?_
    show Steps p.tables e below (T4.setTop (mkF m 20 #[.val (.ref o0), .val (.int (8 : Int32)), .val (.ref b4)] [(.int (0 : Int32)), (.ref o0)])) _
    refine XS.aloadN X4.here hx rfl (hb hby d7_20) rfl rfl ?_
    show Steps p.tables e below (T4.setTop (mkF m 21 #[.val (.ref o0), .val (.int (8 : Int32)), .val (.ref b4)] [(.ref b4), (.int (0 : Int32)), (.ref o0)])) _
    refine XS.iconst X4.here hx rfl (hb hby d7_21) ?_
    show Steps p.tables e below (T4.setTop (mkF m 22 #[.val (.ref o0), .val (.int (8 : Int32)), .val (.ref b4)] [(.int (0 : Int32)), (.ref b4), (.int (0 : Int32)), (.ref o0)])) _
    refine XS.aloadN X4.here hx rfl (hb hby d7_22) rfl rfl ?_
    show Steps p.tables e below (T4.setTop (mkF m 23 #[.val (.ref o0), .val (.int (8 : Int32)), .val (.ref b4)] [(.ref o0), (.int (0 : Int32)), (.ref b4), (.int (0 : Int32)), (.ref o0)])) _
    refine (own_len X4 hx hZ e4 V_6 (g := (mkF m 23 #[.val (.ref o0), .val (.int (8 : Int32)), .val (.ref b4)] [(.ref o0), (.int (0 : Int32)), (.ref b4), (.int (0 : Int32)), (.ref o0)])) rfl rfl (hb hby d7_23)).trans ?_
    show Steps p.tables e below (T4.setTop (mkF m 24 #[.val (.ref o0), .val (.int (8 : Int32)), .val (.ref b4)] [(.int z0), (.int (0 : Int32)), (.ref b4), (.int (0 : Int32)), (.ref o0)])) _
    refine XS.iloadN X4.here hx rfl (hb hby d7_24) rfl ?_
    show Steps p.tables e below (T4.setTop (mkF m 25 #[.val (.ref o0), .val (.int (8 : Int32)), .val (.ref b4)] [(.int (8 : Int32)), (.int z0), (.int (0 : Int32)), (.ref b4), (.int (0 : Int32)), (.ref o0)])) _
    exact Steps.refl _)
  have Z_8 : n0 ≤ h4.size := (Nat.le_trans Z0 E4.1)
  obtain ⟨_, _, ⟨T9, L9, k9, n9⟩, -, X9, ⟨Lc9, hQ9, l9, y9, z9⟩, st9⟩ := Jvm.LawKit.callS X4 hx (y := (⟨"java/lang/Math", "min", "(II)I"⟩ : MethodName)) hown (mvT hZ (hw _ (List.mem_of_getElem? (i := 32) rfl))) (mvT hZ (hw _ (List.mem_of_getElem? (i := 33) rfl))) (mvT hZ (hw _ (List.mem_of_getElem? (i := 26) rfl))) (mvT hZ (hw _ (List.mem_of_getElem? (i := 34) rfl))) (by decide) (backOf (W := 4) (rm6 l Z a0 hw [] z0 (8 : Int32) h4 n0 Z_8 ) hZ (hw _ (List.mem_of_getElem? (i := 34) rfl)) (hw _ (List.mem_of_getElem? (i := 26) rfl)) (by decide) (by decide)) (g := (mkF m 25 #[.val (.ref o0), .val (.int (8 : Int32)), .val (.ref b4)] [(.int (8 : Int32)), (.int z0), (.int (0 : Int32)), (.ref b4), (.int (0 : Int32)), (.ref o0)])) rfl (by rw [hml]; rfl) (argsL := [(.int z0), (.int (8 : Int32))]) (rest := [(.int (0 : Int32)), (.ref b4), (.int (0 : Int32)), (.ref o0)]) (lenOf pd_0 rfl) rfl (by show 2 * 0 + _ ≤ _; exact Nat.le_of_eq rfl) (hb hby d7_25) (fun _ _ => ⟨rfl, e4, (by decide : 1 + 0 ≤ _), (by decide : 8 + 0 ≤ _)⟩)
  dsimp only [Pt.U, Pt.locs, Pt.cells, Pt.slots] at X9 l9 y9 z9 st9 hQ9
  subst l9 y9 z9
  obtain ⟨rfl, N9, eh9⟩ := hQ9
  have N9' := Fr.app N0 N9
  have K10 : Steps p.tables e below _ (T9.setTop (mkF m 28 #[.val (.ref o0), .val (.int (8 : Int32)), .val (.ref b4)] [(.int (if (8 : Int32) < z0 then (8 : Int32) else z0)), (.int (0 : Int32)), (.ref b4), (.int (0 : Int32)), (.ref o0)])) := K7.trans (st9 _ (Steps.refl _))
  rw [show (if (8 : Int32) < z0 then (8 : Int32) else z0) = z0 from (if_neg (fun q => absurd (Int32.lt_trans q hz.2) (by decide)))] at K10
  obtain ⟨T11, h11, L11, X11, e11, N11, Kp11, V11, st11⟩ := cpA X9 hx hZ hown (hw _ (List.mem_of_getElem? (i := 35) rfl)) (hw _ (List.mem_of_getElem? (i := 38) rfl)) (hw _ (List.mem_of_getElem? (i := 36) rfl)) (hw _ (List.mem_of_getElem? (i := 37) rfl)) eh9 V_6 Vn4 (Or.inl ⟨rfl, rfl⟩) (us := ((List.range z0.toNatClampNeg).map fun jx => vs0.getD ((0 : Int32).toNatClampNeg + jx) (.int (0 : Int32)))) (sp := (0 : Int32)) (dp := (0 : Int32)) (nn := z0) (by decide) (by decide) hz.1 (by rw [show (0 : Int32).toNatClampNeg = 0 from rfl]; omega) (by rw [show (0 : Int32).toNatClampNeg = 0 from rfl, show (8 : Int32).toNatClampNeg = 8 from rfl]; omega) rfl (by rw [show (0 : Int32).toNatClampNeg = 0 from rfl]; simpa using hzn) N9' ge_b4 (g := (mkF m 28 #[.val (.ref o0), .val (.int (8 : Int32)), .val (.ref b4)] [(.int z0), (.int (0 : Int32)), (.ref b4), (.int (0 : Int32)), (.ref o0)])) rfl (by rw [hml]; rfl) (rest := []) rfl (hb hby d7_28) (by decide) (W := 0) (by show 2 * 0 + _ ≤ _; exact Nat.le_of_eq rfl) (by decide)
  have K12 : Steps p.tables e below _ (T11.setTop (mkF m 31 #[.val (.ref o0), .val (.int (8 : Int32)), .val (.ref b4)] [])) := K10.trans (st11 _ (Steps.refl _))
  have Vc11 : Arv Z h11 b4 k4 .byte (8 : Int32) (own_cp 8 z0.toNatClampNeg vs0 (.int (0 : Int32))) (.int (0 : Int32)) := V11
  have K13 : Steps p.tables e below _ (T11.setTop (mkF m 32 #[.val (.ref o0), .val (.int (8 : Int32)), .val (.ref b4)] [(.ref b4)])) := K12.trans (by
    show Steps p.tables e below (T11.setTop (mkF m 31 #[.val (.ref o0), .val (.int (8 : Int32)), .val (.ref b4)] [])) _
    refine XS.aloadN X11.here hx rfl (hb hby d7_31) rfl rfl ?_
    show Steps p.tables e below (T11.setTop (mkF m 32 #[.val (.ref o0), .val (.int (8 : Int32)), .val (.ref b4)] [(.ref b4)])) _
    exact Steps.refl _)
  obtain ⟨fs, hr, hrun, hended, hW, hsame⟩ := X11.leave (v := some (.ref b4)) (fun h => by rw [Bd.returns] at h; cases h)
  have K_14 : Keep h0 h11 [] := ((Kp0.ext E4).trans Kp11 (allS (Or.inr sz_b4) all0))
  have E_15 : Exa Z h11 b4 "[B" := (A4.keep Kp11)
  refine ⟨_, _, K13.trans (retOut X11 hx Bd.returns rfl (Or.inr (Or.inr (Or.inr (Or.inr ⟨rfl, rfl, rfl⟩)))) (hb hby d7_32) hr), hrun, hended, _, _, rfl, ?_, ⟨_, rfl⟩, hW, hsame.mono (by decide) (by first | decide | omega)⟩
  show Q_rm7 Z o0 k0 z0 vs0 h0 n0 _ T11.heap _
  rw [e11]
  exact ⟨b4, k4, rfl, N11, K_14, E_15, Vc11, sz_b4⟩
theorem d10_0 : decode jdk_41_method_11_code 0 = .ok (.iload_n 0, 1) := by decide +kernel
theorem d10_1 : decode jdk_41_method_11_code 1 = .ok (.ifCond .lt 8, 3) := by decide +kernel
theorem d10_4 : decode jdk_41_method_11_code 4 = .ok (.iload_n 0, 1) := by decide +kernel
theorem d10_5 : decode jdk_41_method_11_code 5 = .ok (.iload_n 1, 1) := by decide +kernel
theorem d10_6 : decode jdk_41_method_11_code 6 = .ok (.if_icmp .lt 10, 3) := by decide +kernel
theorem d10_16 : decode jdk_41_method_11_code 16 = .ok (.iload_n 0, 1) := by decide +kernel
def Q_rm10 (Z : State) (p0 : Int32) (p1 : Int32) (h0 : Heap) (n0 : Nat) (v : Option Value) (h : Heap) (L : List Loc) : Prop := v = some (.int p0) ∧ Fr n0 L ∧ h = h0
theorem pn_10 : plainName "jdk/internal/util/Preconditions" = true := by first | (simp [plainName, overriddenIn]; done) | decide +kernel
theorem ef_10n2 (m : MethodId) (x0 : Int32) (x1 : Int32) : entryFrame m #[(.int x0), (.int x1), .null] 3 = mkF m 0 #[.val (.int x0), .val (.int x1), .val .null] [] := by first | (simp [entryFrame, mkF, argsToLocals, Value.category]; done) | rfl
theorem d10_17 : decode jdk_41_method_11_code 17 = .ok (.ireturn, 1) := by decide +kernel
set_option maxRecDepth 65536 in
set_option maxHeartbeats 40000000 in
theorem rm10 (l : Launch) (Z : State) (a0 : Array Value) (hw : ∀ d ∈ tables_1, d.before a0 Z = true) (ws : List Jvm.Cond) (p0 : Int32) (p1 : Int32) (h0 : Heap) (n0 : Nat) (Z0 : n0 ≤ h0.size) (hi : ¬ (p0 < (0 : Int32))) (hj : p0 < p1) :
    MetFree l (⟨"jdk/internal/util/Preconditions", "checkIndex", "(IILjava/util/function/BiFunction;)I"⟩ : MethodName) (head1 (Jvm.Cond.code (⟨"jdk/internal/util/Preconditions", "checkIndex", "(IILjava/util/function/BiFunction;)I"⟩ : MethodName) jdk_41_method_11_code 3 (some .int) :: ws) ({ frames := 0, cells := 0, slots := 0, locals := 0 } : Room)) (fun a U => a = #[(.int p0), (.int p1), .null] ∧ Z.Warmed39 U.vm ∧ U.heap = h0) (fun _ _ _ _ _ => True) (fun _ U o U' => ∃ v L, o = .returned v ∧ Q_rm10 Z p0 p1 h0 n0 v U'.heap L ∧ FrameEnd U o U' L ({ frames := 0, cells := 0, slots := 0, locals := 0 } : Room).cells ({ frames := 0, cells := 0, slots := 0, locals := 0 } : Room).slots) := by
  refine MetFree.of_bodySF (plainFor_of_name pn_10) hisR ?_
  intro p e s m args below meth c s₁ Bd hml0 hP hK
  obtain ⟨rfl, hZ, hh⟩ := hP
  have hx := Bd.exec
  have hby := Bd.bytes
  have hml : c.maxLocals = 3 := hml0
  have hown : s.vm.findClass "jdk/internal/util/Preconditions" = some m.cls := findClass_of_methodNamed Bd.named
  have hnm := (name_of_methodNamed Bd.named Bd.method).1
  have X0 : Stand p l e ({ frames := 0, cells := 0, slots := 0, locals := 0 } : Room) s m #[(.int p0), (.int p1), .null] below meth c s₁ [] 0 0 := Stand.of_body Bd
  have e0 : s₁.heap = h0 := by rw [← hh, Bd.state]; rfl
  have N0 := Fr.nil n0
  have Kp0 : Keep h0 h0 [] := Keep.refl _ _
  have K0 : Steps p.tables e below (s₁.setTop (entryFrame m #[(.int p0), (.int p1), .null] 3)) (s₁.setTop (mkF m 0 #[.val (.int p0), .val (.int p1), .val .null] [])) := castTop (ef_10n2 m p0 p1) (Steps.refl _)
  have K2 : Steps p.tables e below _ (s₁.setTop (mkF m 1 #[.val (.int p0), .val (.int p1), .val .null] [(.int p0)])) := K0.trans (by
    show Steps p.tables e below (s₁.setTop (mkF m 0 #[.val (.int p0), .val (.int p1), .val .null] [])) _
    refine XS.iloadN X0.here hx rfl (hb hby d10_0) rfl ?_
    show Steps p.tables e below (s₁.setTop (mkF m 1 #[.val (.int p0), .val (.int p1), .val .null] [(.int p0)])) _
    exact Steps.refl _)
  have hc1_0 : ¬ (p0 < (0 : Int32)) := hi
  have K4 : Steps p.tables e below _ (s₁.setTop (mkF m 6 #[.val (.int p0), .val (.int p1), .val .null] [(.int p1), (.int p0)])) := K2.trans (by
    show Steps p.tables e below (s₁.setTop (mkF m 1 #[.val (.int p0), .val (.int p1), .val .null] [(.int p0)])) _
    refine XS.ifNo X0.here hx rfl (hb hby d10_1) rfl ((if0 _ _).trans (flt hc1_0).1) ?_
    show Steps p.tables e below (s₁.setTop (mkF m 4 #[.val (.int p0), .val (.int p1), .val .null] [])) _
    refine XS.iloadN X0.here hx rfl (hb hby d10_4) rfl ?_
    show Steps p.tables e below (s₁.setTop (mkF m 5 #[.val (.int p0), .val (.int p1), .val .null] [(.int p0)])) _
    refine XS.iloadN X0.here hx rfl (hb hby d10_5) rfl ?_
    show Steps p.tables e below (s₁.setTop (mkF m 6 #[.val (.int p0), .val (.int p1), .val .null] [(.int p1), (.int p0)])) _
    exact Steps.refl _)
  have hc6_2 : p0 < p1 := hj
  have K5 : Steps p.tables e below _ (s₁.setTop (mkF m 17 #[.val (.int p0), .val (.int p1), .val .null] [(.int p0)])) := K4.trans (by
    show Steps p.tables e below (s₁.setTop (mkF m 6 #[.val (.int p0), .val (.int p1), .val .null] [(.int p1), (.int p0)])) _
    refine XS.icmpYes X0.here hx rfl (pc0 := 6) (pc' := 16) rfl (hb hby d10_6) rfl (tlt hc6_2).1 (by decide) (by decide) ?_
    show Steps p.tables e below (s₁.setTop (mkF m 16 #[.val (.int p0), .val (.int p1), .val .null] [])) _
    refine XS.iloadN X0.here hx rfl (hb hby d10_16) rfl ?_
    show Steps p.tables e below (s₁.setTop (mkF m 17 #[.val (.int p0), .val (.int p1), .val .null] [(.int p0)])) _
    exact Steps.refl _)
  obtain ⟨fs, hr, hrun, hended, hW, hsame⟩ := X0.leave (v := some (.int p0)) (fun h => by rw [Bd.returns] at h; cases h)
  refine ⟨_, _, K5.trans (retOut X0 hx Bd.returns rfl (Or.inl ⟨rfl, Or.inl rfl, _, rfl⟩) (hb hby d10_17) hr), hrun, hended, _, _, rfl, ?_, ⟨_, rfl⟩, hW, hsame.mono (by decide) (by first | decide | omega)⟩
  show Q_rm10 Z p0 p1 h0 n0 _ s₁.heap _
  rw [e0]
  exact ⟨rfl, N0, rfl⟩
theorem d9_0 : decode jdk_31_method_17_code 0 = .ok (.iload_n 0, 1) := by decide +kernel
theorem d9_1 : decode jdk_31_method_17_code 1 = .ok (.iload_n 1, 1) := by decide +kernel
theorem d9_2 : decode jdk_31_method_17_code 2 = .ok (.aconst_null, 1) := by decide +kernel
theorem pd_1 : parseMethodDescriptor "(IILjava/util/function/BiFunction;)I" = some ⟨[.int, .int, (.object "java/util/function/BiFunction")], some .int⟩ := by decide +kernel
theorem d9_3 : decode jdk_31_method_17_code 3 = .ok (.invokestatic 105, 3) := by decide +kernel
def Q_rm9 (Z : State) (p0 : Int32) (p1 : Int32) (h0 : Heap) (n0 : Nat) (v : Option Value) (h : Heap) (L : List Loc) : Prop := v = some (.int p0) ∧ Fr n0 L ∧ h = h0
theorem pn_9 : plainName "java/util/Objects" = true := by first | (simp [plainName, overriddenIn]; done) | decide +kernel
theorem ef_9 (m : MethodId) (x0 : Int32) (x1 : Int32) : entryFrame m #[(.int x0), (.int x1)] 2 = mkF m 0 #[.val (.int x0), .val (.int x1)] [] := by first | (simp [entryFrame, mkF, argsToLocals, Value.category]; done) | rfl
theorem d9_6 : decode jdk_31_method_17_code 6 = .ok (.ireturn, 1) := by decide +kernel
set_option maxRecDepth 65536 in
set_option maxHeartbeats 40000000 in
theorem rm9 (l : Launch) (Z : State) (a0 : Array Value) (hw : ∀ d ∈ tables_1, d.before a0 Z = true) (ws : List Jvm.Cond) (p0 : Int32) (p1 : Int32) (h0 : Heap) (n0 : Nat) (Z0 : n0 ≤ h0.size) (hi : ¬ (p0 < (0 : Int32))) (hj : p0 < p1) :
    MetFree l (⟨"java/util/Objects", "checkIndex", "(II)I"⟩ : MethodName) (head1 (Jvm.Cond.code (⟨"java/util/Objects", "checkIndex", "(II)I"⟩ : MethodName) jdk_31_method_17_code 2 (some .int) :: ws) ({ frames := 1, cells := 0, slots := 0, locals := 14 } : Room)) (fun a U => a = #[(.int p0), (.int p1)] ∧ Z.Warmed39 U.vm ∧ U.heap = h0) (fun _ _ _ _ _ => True) (fun _ U o U' => ∃ v L, o = .returned v ∧ Q_rm9 Z p0 p1 h0 n0 v U'.heap L ∧ FrameEnd U o U' L ({ frames := 1, cells := 0, slots := 0, locals := 14 } : Room).cells ({ frames := 1, cells := 0, slots := 0, locals := 14 } : Room).slots) := by
  refine MetFree.of_bodySF (plainFor_of_name pn_9) hisR ?_
  intro p e s m args below meth c s₁ Bd hml0 hP hK
  obtain ⟨rfl, hZ, hh⟩ := hP
  have hx := Bd.exec
  have hby := Bd.bytes
  have hml : c.maxLocals = 2 := hml0
  have hown : s.vm.findClass "java/util/Objects" = some m.cls := findClass_of_methodNamed Bd.named
  have hnm := (name_of_methodNamed Bd.named Bd.method).1
  have X0 : Stand p l e ({ frames := 1, cells := 0, slots := 0, locals := 14 } : Room) s m #[(.int p0), (.int p1)] below meth c s₁ [] 0 0 := Stand.of_body Bd
  have e0 : s₁.heap = h0 := by rw [← hh, Bd.state]; rfl
  have N0 := Fr.nil n0
  have Kp0 : Keep h0 h0 [] := Keep.refl _ _
  have K0 : Steps p.tables e below (s₁.setTop (entryFrame m #[(.int p0), (.int p1)] 2)) (s₁.setTop (mkF m 0 #[.val (.int p0), .val (.int p1)] [])) := castTop (ef_9 m p0 p1) (Steps.refl _)
  have K1 : Steps p.tables e below _ (s₁.setTop (mkF m 3 #[.val (.int p0), .val (.int p1)] [.null, (.int p1), (.int p0)])) := K0.trans (by
    show Steps p.tables e below (s₁.setTop (mkF m 0 #[.val (.int p0), .val (.int p1)] [])) _
    refine XS.iloadN X0.here hx rfl (hb hby d9_0) rfl ?_
    show Steps p.tables e below (s₁.setTop (mkF m 1 #[.val (.int p0), .val (.int p1)] [(.int p0)])) _
    refine XS.iloadN X0.here hx rfl (hb hby d9_1) rfl ?_
    show Steps p.tables e below (s₁.setTop (mkF m 2 #[.val (.int p0), .val (.int p1)] [(.int p1), (.int p0)])) _
    refine XS.aconstNull X0.here hx rfl (hb hby d9_2) ?_
    show Steps p.tables e below (s₁.setTop (mkF m 3 #[.val (.int p0), .val (.int p1)] [.null, (.int p1), (.int p0)])) _
    exact Steps.refl _)
  obtain ⟨_, _, ⟨T2, L2, k2, n2⟩, -, X2, ⟨Lc2, hQ2, l2, y2, z2⟩, st2⟩ := Jvm.LawKit.callS X0 hx (y := (⟨"jdk/internal/util/Preconditions", "checkIndex", "(IILjava/util/function/BiFunction;)I"⟩ : MethodName)) hown (mvT hZ (hw _ (List.mem_of_getElem? (i := 51) rfl))) (mvT hZ (hw _ (List.mem_of_getElem? (i := 52) rfl))) (mvT hZ (hw _ (List.mem_of_getElem? (i := 53) rfl))) (mvT hZ (hw _ (List.mem_of_getElem? (i := 54) rfl))) (by decide) (backOf (W := 0) (rm10 l Z a0 hw [] p0 p1 h0 n0 Z0 (hi) (hj)) hZ (hw _ (List.mem_of_getElem? (i := 54) rfl)) (hw _ (List.mem_of_getElem? (i := 53) rfl)) (by decide) (by decide)) (g := (mkF m 3 #[.val (.int p0), .val (.int p1)] [.null, (.int p1), (.int p0)])) rfl (by rw [hml]; rfl) (argsL := [(.int p0), (.int p1), .null]) (rest := []) (lenOf pd_1 rfl) rfl (by show 2 * 0 + _ ≤ _; exact Nat.le_of_eq rfl) (hb hby d9_3) (fun _ _ => ⟨rfl, e0, (by decide : 0 + 0 ≤ _), (by decide : 0 + 0 ≤ _)⟩)
  dsimp only [Pt.U, Pt.locs, Pt.cells, Pt.slots] at X2 l2 y2 z2 st2 hQ2
  subst l2 y2 z2
  obtain ⟨rfl, N2, eh2⟩ := hQ2
  have N2' := Fr.app N0 N2
  have K3 : Steps p.tables e below _ (T2.setTop (mkF m 6 #[.val (.int p0), .val (.int p1)] [(.int p0)])) := K1.trans (st2 _ (Steps.refl _))
  obtain ⟨fs, hr, hrun, hended, hW, hsame⟩ := X2.leave (v := some (.int p0)) (fun h => by rw [Bd.returns] at h; cases h)
  refine ⟨_, _, K3.trans (retOut X2 hx Bd.returns rfl (Or.inl ⟨rfl, Or.inl rfl, _, rfl⟩) (hb hby d9_6) hr), hrun, hended, _, _, rfl, ?_, ⟨_, rfl⟩, hW, hsame.mono (by decide) (by first | decide | omega)⟩
  show Q_rm9 Z p0 p1 h0 n0 _ T2.heap _
  rw [eh2]
  exact ⟨rfl, N2', rfl⟩
theorem d8_0 : decode prog_13_method_5_code 0 = .ok (.aload_n 0, 1) := by decide +kernel
theorem d8_1 : decode prog_13_method_5_code 1 = .ok (.getfield 16, 3) := by decide +kernel
theorem d8_4 : decode prog_13_method_5_code 4 = .ok (.iload_n 1, 1) := by decide +kernel
theorem d8_5 : decode prog_13_method_5_code 5 = .ok (.aload_n 0, 1) := by decide +kernel
theorem d8_6 : decode prog_13_method_5_code 6 = .ok (.getfield 20, 3) := by decide +kernel
theorem d8_9 : decode prog_13_method_5_code 9 = .ok (.invokestatic 24, 3) := by decide +kernel
theorem d8_12 : decode prog_13_method_5_code 12 = .ok (.baload, 1) := by decide +kernel
theorem d8_13 : decode prog_13_method_5_code 13 = .ok (.iconst 2, 1) := by decide +kernel
theorem d8_14 : decode prog_13_method_5_code 14 = .ok (.iand, 1) := by decide +kernel
theorem d8_15 : decode prog_13_method_5_code 15 = .ok (.ifCond .eq 7, 3) := by decide +kernel
theorem d8_22 : decode prog_13_method_5_code 22 = .ok (.iconst 0, 1) := by decide +kernel
theorem d8_18 : decode prog_13_method_5_code 18 = .ok (.iconst 1, 1) := by decide +kernel
theorem d8_19 : decode prog_13_method_5_code 19 = .ok (.goto 4, 3) := by decide +kernel
def Q_rm8 (Z : State) (o0 : Addr) (p1 : Int32) (ea : Addr) (ke : ClassId) (ze : Int32) (ve : List Value) (w : Int32) (n : Int32) (h0 : Heap) (n0 : Nat) (v : Option Value) (h : Heap) (L : List Loc) : Prop := v = some (.int ((if (w &&& (2 : Int32)) = (0 : Int32) then (0 : Int32) else (1 : Int32)) &&& 1)) ∧ Fr n0 L ∧ h = h0
theorem pn_8 : plainName "com/example/spanfold/spanfold/RangeList" = true := by first | (simp [plainName, overriddenIn]; done) | decide +kernel
theorem ef_8 (m : MethodId) (x0 : Addr) (x1 : Int32) : entryFrame m #[(.ref x0), (.int x1)] 2 = mkF m 0 #[.val (.ref x0), .val (.int x1)] [] := by first | (simp [entryFrame, mkF, argsToLocals, Value.category]; done) | rfl
theorem d8_23 : decode prog_13_method_5_code 23 = .ok (.ireturn, 1) := by decide +kernel
set_option maxRecDepth 65536 in
set_option maxHeartbeats 40000000 in
theorem rm8 (l : Launch) (Z : State) (a0 : Array Value) (hw : ∀ d ∈ tables_1, d.before a0 Z = true) (ws : List Jvm.Cond) (o0 : Addr) (p1 : Int32) (ea : Addr) (ke : ClassId) (ze : Int32) (ve : List Value) (w : Int32) (n : Int32) (h0 : Heap) (n0 : Nat) (Z0 : n0 ≤ h0.size) (F_ends_o0 : Fld Z h0 o0 "com/example/spanfold/spanfold/RangeList" "ends" "[B" (.ref ea)) (F_size_o0 : Fld Z h0 o0 "com/example/spanfold/spanfold/RangeList" "size" "I" (.int n)) (V_ea : Arv Z h0 ea ke .byte ze ve (.int (0 : Int32))) (hi : ¬ (p1 < (0 : Int32))) (hj : p1 < n) (hz : p1 < ze) (hat : ve.getD p1.toNatClampNeg (.int (0 : Int32)) = (.int w)) :
    MetFree l (⟨"com/example/spanfold/spanfold/RangeList", "hasTo", "(I)Z"⟩ : MethodName) (head1 (Jvm.Cond.code (⟨"com/example/spanfold/spanfold/RangeList", "hasTo", "(I)Z"⟩ : MethodName) prog_13_method_5_code 2 (some .boolean) :: ws) ({ frames := 2, cells := 0, slots := 0, locals := 28 } : Room)) (fun a U => a = #[(.ref o0), (.int p1)] ∧ Z.Warmed39 U.vm ∧ U.heap = h0) (fun _ _ _ _ _ => True) (fun _ U o U' => ∃ v L, o = .returned v ∧ Q_rm8 Z o0 p1 ea ke ze ve w n h0 n0 v U'.heap L ∧ FrameEnd U o U' L ({ frames := 2, cells := 0, slots := 0, locals := 28 } : Room).cells ({ frames := 2, cells := 0, slots := 0, locals := 28 } : Room).slots) := by
  refine MetFree.of_bodySF (plainFor_of_name pn_8) hisR ?_
  intro p e s m args below meth c s₁ Bd hml0 hP hK
  obtain ⟨rfl, hZ, hh⟩ := hP
  have hx := Bd.exec
  have hby := Bd.bytes
  have hml : c.maxLocals = 2 := hml0
  have hown : s.vm.findClass "com/example/spanfold/spanfold/RangeList" = some m.cls := findClass_of_methodNamed Bd.named
  have hnm := (name_of_methodNamed Bd.named Bd.method).1
  have X0 : Stand p l e ({ frames := 2, cells := 0, slots := 0, locals := 28 } : Room) s m #[(.ref o0), (.int p1)] below meth c s₁ [] 0 0 := Stand.of_body Bd
  have e0 : s₁.heap = h0 := by rw [← hh, Bd.state]; rfl
  have N0 := Fr.nil n0
  have Kp0 : Keep h0 h0 [] := Keep.refl _ _
  have K0 : Steps p.tables e below (s₁.setTop (entryFrame m #[(.ref o0), (.int p1)] 2)) (s₁.setTop (mkF m 0 #[.val (.ref o0), .val (.int p1)] [])) := castTop (ef_8 m o0 p1) (Steps.refl _)
  have K1 : Steps p.tables e below _ (s₁.setTop (mkF m 1 #[.val (.ref o0), .val (.int p1)] [(.ref o0)])) := K0.trans (by
    show Steps p.tables e below (s₁.setTop (mkF m 0 #[.val (.ref o0), .val (.int p1)] [])) _
    refine XS.aloadN X0.here hx rfl (hb hby d8_0) rfl rfl ?_
    show Steps p.tables e below (s₁.setTop (mkF m 1 #[.val (.ref o0), .val (.int p1)] [(.ref o0)])) _
    exact Steps.refl _)
  obtain ⟨T2, X2, e2, st2⟩ := getF X0 hx hZ hown (host := "") (Or.inl (hw _ (List.mem_of_getElem? (i := 15) rfl))) Via.refl e0 F_ends_o0 (g := (mkF m 1 #[.val (.ref o0), .val (.int p1)] [(.ref o0)])) rfl rfl (hb hby d8_1)
  have K3 : Steps p.tables e below _ (T2.setTop (mkF m 4 #[.val (.ref o0), .val (.int p1)] [(.ref ea)])) := K1.trans (st2 _ (Steps.refl _))
  have K4 : Steps p.tables e below _ (T2.setTop (mkF m 6 #[.val (.ref o0), .val (.int p1)] [(.ref o0), (.int p1), (.ref ea)])) := K3.trans (by
    show Steps p.tables e below (T2.setTop (mkF m 4 #[.val (.ref o0), .val (.int p1)] [(.ref ea)])) _
    refine XS.iloadN X2.here hx rfl (hb hby d8_4) rfl ?_
    show Steps p.tables e below (T2.setTop (mkF m 5 #[.val (.ref o0), .val (.int p1)] [(.int p1), (.ref ea)])) _
    refine XS.aloadN X2.here hx rfl (hb hby d8_5) rfl rfl ?_
    show Steps p.tables e below (T2.setTop (mkF m 6 #[.val (.ref o0), .val (.int p1)] [(.ref o0), (.int p1), (.ref ea)])) _
    exact Steps.refl _)
  obtain ⟨T5, X5, e5, st5⟩ := getF X2 hx hZ hown (host := "") (Or.inl (hw _ (List.mem_of_getElem? (i := 22) rfl))) Via.refl e2 F_size_o0 (g := (mkF m 6 #[.val (.ref o0), .val (.int p1)] [(.ref o0), (.int p1), (.ref ea)])) rfl rfl (hb hby d8_6)
  have K6 : Steps p.tables e below _ (T5.setTop (mkF m 9 #[.val (.ref o0), .val (.int p1)] [(.int n), (.int p1), (.ref ea)])) := K4.trans (st5 _ (Steps.refl _))
  obtain ⟨_, _, ⟨T7, L7, k7, n7⟩, -, X7, ⟨Lc7, hQ7, l7, y7, z7⟩, st7⟩ := Jvm.LawKit.callS X5 hx (y := (⟨"java/util/Objects", "checkIndex", "(II)I"⟩ : MethodName)) hown (mvT hZ (hw _ (List.mem_of_getElem? (i := 47) rfl))) (mvT hZ (hw _ (List.mem_of_getElem? (i := 48) rfl))) (mvT hZ (hw _ (List.mem_of_getElem? (i := 49) rfl))) (mvT hZ (hw _ (List.mem_of_getElem? (i := 50) rfl))) (by decide) (backOf (W := 1) (rm9 l Z a0 hw [] p1 n h0 n0 Z0 (hi) (hj)) hZ (hw _ (List.mem_of_getElem? (i := 50) rfl)) (hw _ (List.mem_of_getElem? (i := 49) rfl)) (by decide) (by decide)) (g := (mkF m 9 #[.val (.ref o0), .val (.int p1)] [(.int n), (.int p1), (.ref ea)])) rfl (by rw [hml]; rfl) (argsL := [(.int p1), (.int n)]) (rest := [(.ref ea)]) (lenOf pd_0 rfl) rfl (by show 2 * 0 + _ ≤ _; exact Nat.le_of_eq rfl) (hb hby d8_9) (fun _ _ => ⟨rfl, e5, (by decide : 0 + 0 ≤ _), (by decide : 0 + 0 ≤ _)⟩)
  dsimp only [Pt.U, Pt.locs, Pt.cells, Pt.slots] at X7 l7 y7 z7 st7 hQ7
  subst l7 y7 z7
  obtain ⟨rfl, N7, eh7⟩ := hQ7
  have N7' := Fr.app N0 N7
  have K8 : Steps p.tables e below _ (T7.setTop (mkF m 12 #[.val (.ref o0), .val (.int p1)] [(.int p1), (.ref ea)])) := K6.trans (st7 _ (Steps.refl _))
  have K9 : Steps p.tables e below _ (T7.setTop (mkF m 15 #[.val (.ref o0), .val (.int p1)] [(.int (w &&& (2 : Int32)))])) := K8.trans (by
    show Steps p.tables e below (T7.setTop (mkF m 12 #[.val (.ref o0), .val (.int p1)] [(.int p1), (.ref ea)])) _
    refine (own_ldB X7 hx hZ eh7 V_ea (j := p1) ⟨hi, hz⟩ hat (g := (mkF m 12 #[.val (.ref o0), .val (.int p1)] [(.int p1), (.ref ea)])) rfl rfl (hb hby d8_12)).trans ?_
    show Steps p.tables e below (T7.setTop (mkF m 13 #[.val (.ref o0), .val (.int p1)] [(.int w)])) _
    refine XS.iconst X7.here hx rfl (hb hby d8_13) ?_
    show Steps p.tables e below (T7.setTop (mkF m 14 #[.val (.ref o0), .val (.int p1)] [(.int (2 : Int32)), (.int w)])) _
    refine XS.iand X7.here hx rfl (hb hby d8_14) rfl ?_
    show Steps p.tables e below (T7.setTop (mkF m 15 #[.val (.ref o0), .val (.int p1)] [(.int (w &&& (2 : Int32)))])) _
    exact Steps.refl _)
  obtain ⟨v10_0, hv10_0, S10⟩ : ∃ (v10_0 : Int32), (if (w &&& (2 : Int32)) = (0 : Int32) then (0 : Int32) else (1 : Int32)) = v10_0 ∧ Steps p.tables e below (T7.setTop (mkF m 15 #[.val (.ref o0), .val (.int p1)] [(.int (w &&& (2 : Int32)))])) (T7.setTop (mkF m 23 #[.val (.ref o0), .val (.int p1)] [(.int v10_0)])) := by
    have R10 : Steps p.tables e below (T7.setTop (mkF m 15 #[.val (.ref o0), .val (.int p1)] [(.int (w &&& (2 : Int32)))])) (T7.setTop (mkF m 15 #[.val (.ref o0), .val (.int p1)] [(.int (w &&& (2 : Int32)))])) := Steps.refl _
    by_cases hc15 : (w &&& (2 : Int32)) = (0 : Int32)
    · have K11 : Steps p.tables e below _ (T7.setTop (mkF m 23 #[.val (.ref o0), .val (.int p1)] [(.int (0 : Int32))])) := R10.trans (by
        show Steps p.tables e below (T7.setTop (mkF m 15 #[.val (.ref o0), .val (.int p1)] [(.int (w &&& (2 : Int32)))])) _
        refine XS.ifYes X7.here hx rfl (pc0 := 15) (pc' := 22) rfl (hb hby d8_15) rfl ((if0 _ _).trans (teq hc15).1) (by decide) (by decide) ?_
        show Steps p.tables e below (T7.setTop (mkF m 22 #[.val (.ref o0), .val (.int p1)] [])) _
        refine XS.iconst X7.here hx rfl (hb hby d8_22) ?_
        show Steps p.tables e below (T7.setTop (mkF m 23 #[.val (.ref o0), .val (.int p1)] [(.int (0 : Int32))])) _
        exact Steps.refl _)
      exact ⟨(0 : Int32), (by rw [if_pos hc15]), K11⟩
    · have K12 : Steps p.tables e below _ (T7.setTop (mkF m 23 #[.val (.ref o0), .val (.int p1)] [(.int (1 : Int32))])) := R10.trans (by
        show Steps p.tables e below (T7.setTop (mkF m 15 #[.val (.ref o0), .val (.int p1)] [(.int (w &&& (2 : Int32)))])) _
        refine XS.ifNo X7.here hx rfl (hb hby d8_15) rfl ((if0 _ _).trans (feq hc15).1) ?_
        show Steps p.tables e below (T7.setTop (mkF m 18 #[.val (.ref o0), .val (.int p1)] [])) _
        refine XS.iconst X7.here hx rfl (hb hby d8_18) ?_
        show Steps p.tables e below (T7.setTop (mkF m 19 #[.val (.ref o0), .val (.int p1)] [(.int (1 : Int32))])) _
        refine XS.goto X7.here hx rfl (pc0 := 19) (pc' := 23) rfl (hb hby d8_19) (by decide) (by decide) ?_
        show Steps p.tables e below (T7.setTop (mkF m 23 #[.val (.ref o0), .val (.int p1)] [(.int (1 : Int32))])) _
        exact Steps.refl _)
      exact ⟨(1 : Int32), (by rw [if_neg hc15]), K12⟩
  have K13 := K9.trans S10
  subst hv10_0
  obtain ⟨fs, hr, hrun, hended, hW, hsame⟩ := X7.leave (v := some (.int ((if (w &&& (2 : Int32)) = (0 : Int32) then (0 : Int32) else (1 : Int32)) &&& 1))) (fun h => by rw [Bd.returns] at h; cases h)
  refine ⟨_, _, K13.trans (retN X7 hx (t := .boolean) Bd.returns (by simp) (hb hby d8_23) hr), hrun, hended, _, _, rfl, ?_, ⟨_, rfl⟩, hW, hsame.mono (by decide) (by first | decide | omega)⟩
  show Q_rm8 Z o0 p1 ea ke ze ve w n h0 n0 _ T7.heap _
  rw [eh7]
  exact ⟨rfl, N7', rfl⟩
theorem d3_0 : decode prog_13_method_7_code 0 = .ok (.aload_n 0, 1) := by decide +kernel
theorem d3_1 : decode prog_13_method_7_code 1 = .ok (.getfield 20, 3) := by decide +kernel
theorem d3_4 : decode prog_13_method_7_code 4 = .ok (.aload_n 0, 1) := by decide +kernel
theorem d3_5 : decode prog_13_method_7_code 5 = .ok (.getfield 7, 3) := by decide +kernel
theorem d3_8 : decode prog_13_method_7_code 8 = .ok (.arraylength, 1) := by decide +kernel
theorem d3_9 : decode prog_13_method_7_code 9 = .ok (.if_icmp .ne 55, 3) := by decide +kernel
theorem d3_64 : decode prog_13_method_7_code 64 = .ok (.aload_n 0, 1) := by decide +kernel
theorem d3_65 : decode prog_13_method_7_code 65 = .ok (.getfield 7, 3) := by decide +kernel
theorem d3_68 : decode prog_13_method_7_code 68 = .ok (.aload_n 0, 1) := by decide +kernel
theorem d3_69 : decode prog_13_method_7_code 69 = .ok (.getfield 20, 3) := by decide +kernel
theorem d3_72 : decode prog_13_method_7_code 72 = .ok (.iload_n 1, 1) := by decide +kernel
theorem d3_73 : decode prog_13_method_7_code 73 = .ok (.ifCond .eq 7, 3) := by decide +kernel
theorem d3_80 : decode prog_13_method_7_code 80 = .ok (.lconst 0, 1) := by decide +kernel
theorem d3_76 : decode prog_13_method_7_code 76 = .ok (.lload_n 2, 1) := by decide +kernel
theorem d3_77 : decode prog_13_method_7_code 77 = .ok (.goto 4, 3) := by decide +kernel
theorem d3_81 : decode prog_13_method_7_code 81 = .ok (.lastore, 1) := by decide +kernel
theorem d3_82 : decode prog_13_method_7_code 82 = .ok (.aload_n 0, 1) := by decide +kernel
theorem d3_83 : decode prog_13_method_7_code 83 = .ok (.getfield 13, 3) := by decide +kernel
theorem d3_86 : decode prog_13_method_7_code 86 = .ok (.aload_n 0, 1) := by decide +kernel
theorem d3_87 : decode prog_13_method_7_code 87 = .ok (.getfield 20, 3) := by decide +kernel
theorem d3_90 : decode prog_13_method_7_code 90 = .ok (.iload 4, 2) := by decide +kernel
theorem d3_92 : decode prog_13_method_7_code 92 = .ok (.ifCond .eq 8, 3) := by decide +kernel
theorem d3_100 : decode prog_13_method_7_code 100 = .ok (.lconst 0, 1) := by decide +kernel
theorem d3_95 : decode prog_13_method_7_code 95 = .ok (.lload 5, 2) := by decide +kernel
theorem d3_97 : decode prog_13_method_7_code 97 = .ok (.goto 4, 3) := by decide +kernel
theorem d3_101 : decode prog_13_method_7_code 101 = .ok (.lastore, 1) := by decide +kernel
theorem d3_102 : decode prog_13_method_7_code 102 = .ok (.aload_n 0, 1) := by decide +kernel
theorem d3_103 : decode prog_13_method_7_code 103 = .ok (.getfield 16, 3) := by decide +kernel
theorem d3_106 : decode prog_13_method_7_code 106 = .ok (.aload_n 0, 1) := by decide +kernel
theorem d3_107 : decode prog_13_method_7_code 107 = .ok (.getfield 20, 3) := by decide +kernel
theorem d3_110 : decode prog_13_method_7_code 110 = .ok (.iload_n 1, 1) := by decide +kernel
theorem d3_111 : decode prog_13_method_7_code 111 = .ok (.ifCond .eq 7, 3) := by decide +kernel
theorem d3_118 : decode prog_13_method_7_code 118 = .ok (.iconst 0, 1) := by decide +kernel
theorem d3_114 : decode prog_13_method_7_code 114 = .ok (.iconst 1, 1) := by decide +kernel
theorem d3_115 : decode prog_13_method_7_code 115 = .ok (.goto 4, 3) := by decide +kernel
theorem d3_119 : decode prog_13_method_7_code 119 = .ok (.iload 4, 2) := by decide +kernel
theorem d3_121 : decode prog_13_method_7_code 121 = .ok (.ifCond .eq 7, 3) := by decide +kernel
theorem d3_128 : decode prog_13_method_7_code 128 = .ok (.iconst 0, 1) := by decide +kernel
theorem d3_124 : decode prog_13_method_7_code 124 = .ok (.iconst 2, 1) := by decide +kernel
theorem d3_125 : decode prog_13_method_7_code 125 = .ok (.goto 4, 3) := by decide +kernel
theorem d3_129 : decode prog_13_method_7_code 129 = .ok (.ior, 1) := by decide +kernel
theorem d3_130 : decode prog_13_method_7_code 130 = .ok (.i2b, 1) := by decide +kernel
theorem d3_131 : decode prog_13_method_7_code 131 = .ok (.bastore, 1) := by decide +kernel
theorem d3_132 : decode prog_13_method_7_code 132 = .ok (.aload_n 0, 1) := by decide +kernel
theorem d3_133 : decode prog_13_method_7_code 133 = .ok (.dup, 1) := by decide +kernel
theorem d3_134 : decode prog_13_method_7_code 134 = .ok (.getfield 20, 3) := by decide +kernel
theorem d3_137 : decode prog_13_method_7_code 137 = .ok (.iconst 1, 1) := by decide +kernel
theorem d3_138 : decode prog_13_method_7_code 138 = .ok (.iadd, 1) := by decide +kernel
theorem d3_139 : decode prog_13_method_7_code 139 = .ok (.putfield 20, 3) := by decide +kernel
def Q_rm3n (Z : State) (o0 : Addr) (p1 : Int32) (q2 : Int64) (p3 : Int32) (q4 : Int64) (fa : Addr) (ta : Addr) (ea : Addr) (kf : ClassId) (kt : ClassId) (ke : ClassId) (z : Int32) (vf : List Value) (vt : List Value) (ve : List Value) (n : Int32) (i : Nat) (h0 : Heap) (n0 : Nat) (v : Option Value) (h : Heap) (L : List Loc) : Prop := v = none ∧ Fr n0 L ∧ Keep h0 h [o0, fa, ta, ea] ∧ Exa Z h o0 "com/example/spanfold/spanfold/RangeList" ∧ Fld Z h o0 "com/example/spanfold/spanfold/RangeList" "froms" "[J" (.ref fa) ∧ Fld Z h o0 "com/example/spanfold/spanfold/RangeList" "tos" "[J" (.ref ta) ∧ Fld Z h o0 "com/example/spanfold/spanfold/RangeList" "ends" "[B" (.ref ea) ∧ Fld Z h o0 "com/example/spanfold/spanfold/RangeList" "size" "I" (.int (n + (1 : Int32))) ∧ Arv Z h fa kf .long z (vf.set i (.long (if p1 = (0 : Int32) then (0 : Int64) else q2))) (.long (0 : Int64)) ∧ Arv Z h ta kt .long z (vt.set i (.long (if p3 = (0 : Int32) then (0 : Int64) else q4))) (.long (0 : Int64)) ∧ Arv Z h ea ke .byte z (ve.set i (.int ((((if p1 = (0 : Int32) then (0 : Int32) else (1 : Int32)) ||| (if p3 = (0 : Int32) then (0 : Int32) else (2 : Int32))).toInt8.toInt32).toInt8.toInt32))) (.int (0 : Int32))
theorem pn_3 : plainName "com/example/spanfold/spanfold/RangeList" = true := by first | (simp [plainName, overriddenIn]; done) | decide +kernel
theorem ef_3 (m : MethodId) (x0 : Addr) (x1 : Int32) (x2 : Int64) (x3 : Int32) (x4 : Int64) : entryFrame m #[(.ref x0), (.int x1), (.long x2), (.int x3), (.long x4)] 8 = mkF m 0 #[.val (.ref x0), .val (.int x1), .val (.long x2), .second, .val (.int x3), .val (.long x4), .second, .unset] [] := by first | (simp [entryFrame, mkF, argsToLocals, Value.category]; done) | rfl
theorem d3_142 : decode prog_13_method_7_code 142 = .ok (.return_, 1) := by decide +kernel
set_option maxRecDepth 65536 in
set_option maxHeartbeats 40000000 in
theorem rm3n (l : Launch) (Z : State) (a0 : Array Value) (hw : ∀ d ∈ tables_1, d.before a0 Z = true) (ws : List Jvm.Cond) (o0 : Addr) (p1 : Int32) (q2 : Int64) (p3 : Int32) (q4 : Int64) (fa : Addr) (ta : Addr) (ea : Addr) (kf : ClassId) (kt : ClassId) (ke : ClassId) (z : Int32) (vf : List Value) (vt : List Value) (ve : List Value) (n : Int32) (i : Nat) (h0 : Heap) (n0 : Nat) (Z0 : n0 ≤ h0.size) (E_o0 : Exa Z h0 o0 "com/example/spanfold/spanfold/RangeList") (F_froms_o0 : Fld Z h0 o0 "com/example/spanfold/spanfold/RangeList" "froms" "[J" (.ref fa)) (F_tos_o0 : Fld Z h0 o0 "com/example/spanfold/spanfold/RangeList" "tos" "[J" (.ref ta)) (F_ends_o0 : Fld Z h0 o0 "com/example/spanfold/spanfold/RangeList" "ends" "[B" (.ref ea)) (F_size_o0 : Fld Z h0 o0 "com/example/spanfold/spanfold/RangeList" "size" "I" (.int n)) (V_fa : Arv Z h0 fa kf .long z vf (.long (0 : Int64))) (V_ta : Arv Z h0 ta kt .long z vt (.long (0 : Int64))) (V_ea : Arv Z h0 ea ke .byte z ve (.int (0 : Int32))) (ne_o0_fa : o0 ≠ fa) (ne_o0_ta : o0 ≠ ta) (ne_o0_ea : o0 ≠ ea) (ne_fa_ta : fa ≠ ta) (ne_fa_ea : fa ≠ ea) (ne_ta_ea : ta ≠ ea) (g_o0 : n0 ≤ o0) (g_fa : n0 ≤ fa) (g_ta : n0 ≤ ta) (g_ea : n0 ≤ ea) (hne : ¬ (n = z)) (hq : ¬ (n < (0 : Int32)) ∧ n < z) (hi : n.toNatClampNeg = i) (hf : i < vf.length) (ht : i < vt.length) (he : i < ve.length) :
    MetFree l (⟨"com/example/spanfold/spanfold/RangeList", "add", "(ZJZJ)V"⟩ : MethodName) (head1 (Jvm.Cond.code (⟨"com/example/spanfold/spanfold/RangeList", "add", "(ZJZJ)V"⟩ : MethodName) prog_13_method_7_code 8 none :: ws) ({ frames := 0, cells := 0, slots := 0, locals := 0 } : Room)) (fun a U => a = #[(.ref o0), (.int p1), (.long q2), (.int p3), (.long q4)] ∧ Z.Warmed39 U.vm ∧ U.heap = h0) (fun _ _ _ _ _ => True) (fun _ U o U' => ∃ v L, o = .returned v ∧ Q_rm3n Z o0 p1 q2 p3 q4 fa ta ea kf kt ke z vf vt ve n i h0 n0 v U'.heap L ∧ FrameEnd U o U' L ({ frames := 0, cells := 0, slots := 0, locals := 0 } : Room).cells ({ frames := 0, cells := 0, slots := 0, locals := 0 } : Room).slots) := by
  refine MetFree.of_bodySF (plainFor_of_name pn_3) hisR ?_
  intro p e s m args below meth c s₁ Bd hml0 hP hK
  obtain ⟨rfl, hZ, hh⟩ := hP
  have hx := Bd.exec
  have hby := Bd.bytes
  have hml : c.maxLocals = 8 := hml0
  have hown : s.vm.findClass "com/example/spanfold/spanfold/RangeList" = some m.cls := findClass_of_methodNamed Bd.named
  have hnm := (name_of_methodNamed Bd.named Bd.method).1
  have X0 : Stand p l e ({ frames := 0, cells := 0, slots := 0, locals := 0 } : Room) s m #[(.ref o0), (.int p1), (.long q2), (.int p3), (.long q4)] below meth c s₁ [] 0 0 := Stand.of_body Bd
  have e0 : s₁.heap = h0 := by rw [← hh, Bd.state]; rfl
  have N0 := Fr.nil n0
  have Kp0 : Keep h0 h0 [o0, fa, ta, ea] := Keep.refl _ _
  have K0 : Steps p.tables e below (s₁.setTop (entryFrame m #[(.ref o0), (.int p1), (.long q2), (.int p3), (.long q4)] 8)) (s₁.setTop (mkF m 0 #[.val (.ref o0), .val (.int p1), .val (.long q2), .second, .val (.int p3), .val (.long q4), .second, .unset] [])) := castTop (ef_3 m o0 p1 q2 p3 q4) (Steps.refl _)
  have K1 : Steps p.tables e below _ (s₁.setTop (mkF m 1 #[.val (.ref o0), .val (.int p1), .val (.long q2), .second, .val (.int p3), .val (.long q4), .second, .unset] [(.ref o0)])) := K0.trans (by
    show Steps p.tables e below (s₁.setTop (mkF m 0 #[.val (.ref o0), .val (.int p1), .val (.long q2), .second, .val (.int p3), .val (.long q4), .second, .unset] [])) _
    refine XS.aloadN X0.here hx rfl (hb hby d3_0) rfl rfl ?_
    show Steps p.tables e below (s₁.setTop (mkF m 1 #[.val (.ref o0), .val (.int p1), .val (.long q2), .second, .val (.int p3), .val (.long q4), .second, .unset] [(.ref o0)])) _
    exact Steps.refl _)
  obtain ⟨T2, X2, e2, st2⟩ := getF X0 hx hZ hown (host := "") (Or.inl (hw _ (List.mem_of_getElem? (i := 22) rfl))) Via.refl e0 F_size_o0 (g := (mkF m 1 #[.val (.ref o0), .val (.int p1), .val (.long q2), .second, .val (.int p3), .val (.long q4), .second, .unset] [(.ref o0)])) rfl rfl (hb hby d3_1)
  have K3 : Steps p.tables e below _ (T2.setTop (mkF m 4 #[.val (.ref o0), .val (.int p1), .val (.long q2), .second, .val (.int p3), .val (.long q4), .second, .unset] [(.int n)])) := K1.trans (st2 _ (Steps.refl _))
  have K4 : Steps p.tables e below _ (T2.setTop (mkF m 5 #[.val (.ref o0), .val (.int p1), .val (.long q2), .second, .val (.int p3), .val (.long q4), .second, .unset] [(.ref o0), (.int n)])) := K3.trans (by
    show Steps p.tables e below (T2.setTop (mkF m 4 #[.val (.ref o0), .val (.int p1), .val (.long q2), .second, .val (.int p3), .val (.long q4), .second, .unset] [(.int n)])) _
    refine XS.aloadN X2.here hx rfl (hb hby d3_4) rfl rfl ?_
    show Steps p.tables e below (T2.setTop (mkF m 5 #[.val (.ref o0), .val (.int p1), .val (.long q2), .second, .val (.int p3), .val (.long q4), .second, .unset] [(.ref o0), (.int n)])) _
    exact Steps.refl _)
  obtain ⟨T5, X5, e5, st5⟩ := getF X2 hx hZ hown (host := "") (Or.inl (hw _ (List.mem_of_getElem? (i := 10) rfl))) Via.refl e2 F_froms_o0 (g := (mkF m 5 #[.val (.ref o0), .val (.int p1), .val (.long q2), .second, .val (.int p3), .val (.long q4), .second, .unset] [(.ref o0), (.int n)])) rfl rfl (hb hby d3_5)
  have K6 : Steps p.tables e below _ (T5.setTop (mkF m 8 #[.val (.ref o0), .val (.int p1), .val (.long q2), .second, .val (.int p3), .val (.long q4), .second, .unset] [(.ref fa), (.int n)])) := K4.trans (st5 _ (Steps.refl _))
  have K8 : Steps p.tables e below _ (T5.setTop (mkF m 9 #[.val (.ref o0), .val (.int p1), .val (.long q2), .second, .val (.int p3), .val (.long q4), .second, .unset] [(.int z), (.int n)])) := K6.trans (by
    show Steps p.tables e below (T5.setTop (mkF m 8 #[.val (.ref o0), .val (.int p1), .val (.long q2), .second, .val (.int p3), .val (.long q4), .second, .unset] [(.ref fa), (.int n)])) _
    refine (own_len X5 hx hZ e5 V_fa (g := (mkF m 8 #[.val (.ref o0), .val (.int p1), .val (.long q2), .second, .val (.int p3), .val (.long q4), .second, .unset] [(.ref fa), (.int n)])) rfl rfl (hb hby d3_8)).trans ?_
    show Steps p.tables e below (T5.setTop (mkF m 9 #[.val (.ref o0), .val (.int p1), .val (.long q2), .second, .val (.int p3), .val (.long q4), .second, .unset] [(.int z), (.int n)])) _
    exact Steps.refl _)
  have hc9_6 : ¬ (n = z) := hne
  have K9 : Steps p.tables e below _ (T5.setTop (mkF m 65 #[.val (.ref o0), .val (.int p1), .val (.long q2), .second, .val (.int p3), .val (.long q4), .second, .unset] [(.ref o0)])) := K8.trans (by
    show Steps p.tables e below (T5.setTop (mkF m 9 #[.val (.ref o0), .val (.int p1), .val (.long q2), .second, .val (.int p3), .val (.long q4), .second, .unset] [(.int z), (.int n)])) _
    refine XS.icmpYes X5.here hx rfl (pc0 := 9) (pc' := 64) rfl (hb hby d3_9) rfl (feq hc9_6).2 (by decide) (by decide) ?_
    show Steps p.tables e below (T5.setTop (mkF m 64 #[.val (.ref o0), .val (.int p1), .val (.long q2), .second, .val (.int p3), .val (.long q4), .second, .unset] [])) _
    refine XS.aloadN X5.here hx rfl (hb hby d3_64) rfl rfl ?_
    show Steps p.tables e below (T5.setTop (mkF m 65 #[.val (.ref o0), .val (.int p1), .val (.long q2), .second, .val (.int p3), .val (.long q4), .second, .unset] [(.ref o0)])) _
    exact Steps.refl _)
  obtain ⟨T10, X10, e10, st10⟩ := getF X5 hx hZ hown (host := "") (Or.inl (hw _ (List.mem_of_getElem? (i := 10) rfl))) Via.refl e5 F_froms_o0 (g := (mkF m 65 #[.val (.ref o0), .val (.int p1), .val (.long q2), .second, .val (.int p3), .val (.long q4), .second, .unset] [(.ref o0)])) rfl rfl (hb hby d3_65)
  have K11 : Steps p.tables e below _ (T10.setTop (mkF m 68 #[.val (.ref o0), .val (.int p1), .val (.long q2), .second, .val (.int p3), .val (.long q4), .second, .unset] [(.ref fa)])) := K9.trans (st10 _ (Steps.refl _))
  have K12 : Steps p.tables e below _ (T10.setTop (mkF m 69 #[.val (.ref o0), .val (.int p1), .val (.long q2), .second, .val (.int p3), .val (.long q4), .second, .unset] [(.ref o0), (.ref fa)])) := K11.trans (by
    show Steps p.tables e below (T10.setTop (mkF m 68 #[.val (.ref o0), .val (.int p1), .val (.long q2), .second, .val (.int p3), .val (.long q4), .second, .unset] [(.ref fa)])) _
    refine XS.aloadN X10.here hx rfl (hb hby d3_68) rfl rfl ?_
    show Steps p.tables e below (T10.setTop (mkF m 69 #[.val (.ref o0), .val (.int p1), .val (.long q2), .second, .val (.int p3), .val (.long q4), .second, .unset] [(.ref o0), (.ref fa)])) _
    exact Steps.refl _)
  obtain ⟨T13, X13, e13, st13⟩ := getF X10 hx hZ hown (host := "") (Or.inl (hw _ (List.mem_of_getElem? (i := 22) rfl))) Via.refl e10 F_size_o0 (g := (mkF m 69 #[.val (.ref o0), .val (.int p1), .val (.long q2), .second, .val (.int p3), .val (.long q4), .second, .unset] [(.ref o0), (.ref fa)])) rfl rfl (hb hby d3_69)
  have K14 : Steps p.tables e below _ (T13.setTop (mkF m 72 #[.val (.ref o0), .val (.int p1), .val (.long q2), .second, .val (.int p3), .val (.long q4), .second, .unset] [(.int n), (.ref fa)])) := K12.trans (st13 _ (Steps.refl _))
  have K15 : Steps p.tables e below _ (T13.setTop (mkF m 73 #[.val (.ref o0), .val (.int p1), .val (.long q2), .second, .val (.int p3), .val (.long q4), .second, .unset] [(.int p1), (.int n), (.ref fa)])) := K14.trans (by
    show Steps p.tables e below (T13.setTop (mkF m 72 #[.val (.ref o0), .val (.int p1), .val (.long q2), .second, .val (.int p3), .val (.long q4), .second, .unset] [(.int n), (.ref fa)])) _
    refine XS.iloadN X13.here hx rfl (hb hby d3_72) rfl ?_
    show Steps p.tables e below (T13.setTop (mkF m 73 #[.val (.ref o0), .val (.int p1), .val (.long q2), .second, .val (.int p3), .val (.long q4), .second, .unset] [(.int p1), (.int n), (.ref fa)])) _
    exact Steps.refl _)
  obtain ⟨v16_0, hv16_0, S16⟩ : ∃ (v16_0 : Int64), (if p1 = (0 : Int32) then (0 : Int64) else q2) = v16_0 ∧ Steps p.tables e below (T13.setTop (mkF m 73 #[.val (.ref o0), .val (.int p1), .val (.long q2), .second, .val (.int p3), .val (.long q4), .second, .unset] [(.int p1), (.int n), (.ref fa)])) (T13.setTop (mkF m 81 #[.val (.ref o0), .val (.int p1), .val (.long q2), .second, .val (.int p3), .val (.long q4), .second, .unset] [(.long v16_0), (.int n), (.ref fa)])) := by
    have R16 : Steps p.tables e below (T13.setTop (mkF m 73 #[.val (.ref o0), .val (.int p1), .val (.long q2), .second, .val (.int p3), .val (.long q4), .second, .unset] [(.int p1), (.int n), (.ref fa)])) (T13.setTop (mkF m 73 #[.val (.ref o0), .val (.int p1), .val (.long q2), .second, .val (.int p3), .val (.long q4), .second, .unset] [(.int p1), (.int n), (.ref fa)])) := Steps.refl _
    by_cases hc73 : p1 = (0 : Int32)
    · have K17 : Steps p.tables e below _ (T13.setTop (mkF m 81 #[.val (.ref o0), .val (.int p1), .val (.long q2), .second, .val (.int p3), .val (.long q4), .second, .unset] [(.long (0 : Int64)), (.int n), (.ref fa)])) := R16.trans (by
        show Steps p.tables e below (T13.setTop (mkF m 73 #[.val (.ref o0), .val (.int p1), .val (.long q2), .second, .val (.int p3), .val (.long q4), .second, .unset] [(.int p1), (.int n), (.ref fa)])) _
        refine XS.ifYes X13.here hx rfl (pc0 := 73) (pc' := 80) rfl (hb hby d3_73) rfl ((if0 _ _).trans (teq hc73).1) (by decide) (by decide) ?_
        show Steps p.tables e below (T13.setTop (mkF m 80 #[.val (.ref o0), .val (.int p1), .val (.long q2), .second, .val (.int p3), .val (.long q4), .second, .unset] [(.int n), (.ref fa)])) _
        refine XS.lconst X13.here hx rfl (hb hby d3_80) ?_
        show Steps p.tables e below (T13.setTop (mkF m 81 #[.val (.ref o0), .val (.int p1), .val (.long q2), .second, .val (.int p3), .val (.long q4), .second, .unset] [(.long (0 : Int64)), (.int n), (.ref fa)])) _
        exact Steps.refl _)
      exact ⟨(0 : Int64), (by rw [if_pos hc73]), K17⟩
    · have K18 : Steps p.tables e below _ (T13.setTop (mkF m 81 #[.val (.ref o0), .val (.int p1), .val (.long q2), .second, .val (.int p3), .val (.long q4), .second, .unset] [(.long q2), (.int n), (.ref fa)])) := R16.trans (by
        show Steps p.tables e below (T13.setTop (mkF m 73 #[.val (.ref o0), .val (.int p1), .val (.long q2), .second, .val (.int p3), .val (.long q4), .second, .unset] [(.int p1), (.int n), (.ref fa)])) _
        refine XS.ifNo X13.here hx rfl (hb hby d3_73) rfl ((if0 _ _).trans (feq hc73).1) ?_
        show Steps p.tables e below (T13.setTop (mkF m 76 #[.val (.ref o0), .val (.int p1), .val (.long q2), .second, .val (.int p3), .val (.long q4), .second, .unset] [(.int n), (.ref fa)])) _
        refine XS.lloadN X13.here hx rfl (hb hby d3_76) rfl ?_
        show Steps p.tables e below (T13.setTop (mkF m 77 #[.val (.ref o0), .val (.int p1), .val (.long q2), .second, .val (.int p3), .val (.long q4), .second, .unset] [(.long q2), (.int n), (.ref fa)])) _
        refine XS.goto X13.here hx rfl (pc0 := 77) (pc' := 81) rfl (hb hby d3_77) (by decide) (by decide) ?_
        show Steps p.tables e below (T13.setTop (mkF m 81 #[.val (.ref o0), .val (.int p1), .val (.long q2), .second, .val (.int p3), .val (.long q4), .second, .unset] [(.long q2), (.int n), (.ref fa)])) _
        exact Steps.refl _)
      exact ⟨q2, (by rw [if_neg hc73]), K18⟩
  have K19 := K15.trans S16
  obtain ⟨T20, h20, X20, e20, W20, V20, st20⟩ := own_stJ X13 hx hZ e13 V_fa (j := n) hq i hi hf (g := (mkF m 81 #[.val (.ref o0), .val (.int p1), .val (.long q2), .second, .val (.int p3), .val (.long q4), .second, .unset] [(.long v16_0), (.int n), (.ref fa)])) rfl rfl (hb hby d3_81)
  have K21 : Steps p.tables e below _ (T20.setTop (mkF m 82 #[.val (.ref o0), .val (.int p1), .val (.long q2), .second, .val (.int p3), .val (.long q4), .second, .unset] [])) := K19.trans st20
  have Vw20 : Arv Z h20 fa kf .long z (vf.set i (.long v16_0)) (.long (0 : Int64)) := V20
  have N20 := Fr.snoc X20 N0 g_fa
  have K22 : Steps p.tables e below _ (T20.setTop (mkF m 83 #[.val (.ref o0), .val (.int p1), .val (.long q2), .second, .val (.int p3), .val (.long q4), .second, .unset] [(.ref o0)])) := K21.trans (by
    show Steps p.tables e below (T20.setTop (mkF m 82 #[.val (.ref o0), .val (.int p1), .val (.long q2), .second, .val (.int p3), .val (.long q4), .second, .unset] [])) _
    refine XS.aloadN X20.here hx rfl (hb hby d3_82) rfl rfl ?_
    show Steps p.tables e below (T20.setTop (mkF m 83 #[.val (.ref o0), .val (.int p1), .val (.long q2), .second, .val (.int p3), .val (.long q4), .second, .unset] [(.ref o0)])) _
    exact Steps.refl _)
  have F_23 : Fld Z h20 o0 "com/example/spanfold/spanfold/RangeList" "tos" "[J" (.ref ta) := (F_tos_o0.other W20 (Or.inl ne_o0_fa))
  obtain ⟨T24, X24, e24, st24⟩ := getF X20 hx hZ hown (host := "") (Or.inl (hw _ (List.mem_of_getElem? (i := 12) rfl))) Via.refl e20 F_23 (g := (mkF m 83 #[.val (.ref o0), .val (.int p1), .val (.long q2), .second, .val (.int p3), .val (.long q4), .second, .unset] [(.ref o0)])) rfl rfl (hb hby d3_83)
  have K25 : Steps p.tables e below _ (T24.setTop (mkF m 86 #[.val (.ref o0), .val (.int p1), .val (.long q2), .second, .val (.int p3), .val (.long q4), .second, .unset] [(.ref ta)])) := K22.trans (st24 _ (Steps.refl _))
  have K26 : Steps p.tables e below _ (T24.setTop (mkF m 87 #[.val (.ref o0), .val (.int p1), .val (.long q2), .second, .val (.int p3), .val (.long q4), .second, .unset] [(.ref o0), (.ref ta)])) := K25.trans (by
    show Steps p.tables e below (T24.setTop (mkF m 86 #[.val (.ref o0), .val (.int p1), .val (.long q2), .second, .val (.int p3), .val (.long q4), .second, .unset] [(.ref ta)])) _
    refine XS.aloadN X24.here hx rfl (hb hby d3_86) rfl rfl ?_
    show Steps p.tables e below (T24.setTop (mkF m 87 #[.val (.ref o0), .val (.int p1), .val (.long q2), .second, .val (.int p3), .val (.long q4), .second, .unset] [(.ref o0), (.ref ta)])) _
    exact Steps.refl _)
  have F_27 : Fld Z h20 o0 "com/example/spanfold/spanfold/RangeList" "size" "I" (.int n) := (F_size_o0.other W20 (Or.inl ne_o0_fa))
  obtain ⟨T28, X28, e28, st28⟩ := getF X24 hx hZ hown (host := "") (Or.inl (hw _ (List.mem_of_getElem? (i := 22) rfl))) Via.refl e24 F_27 (g := (mkF m 87 #[.val (.ref o0), .val (.int p1), .val (.long q2), .second, .val (.int p3), .val (.long q4), .second, .unset] [(.ref o0), (.ref ta)])) rfl rfl (hb hby d3_87)
  have K29 : Steps p.tables e below _ (T28.setTop (mkF m 90 #[.val (.ref o0), .val (.int p1), .val (.long q2), .second, .val (.int p3), .val (.long q4), .second, .unset] [(.int n), (.ref ta)])) := K26.trans (st28 _ (Steps.refl _))
  have K30 : Steps p.tables e below _ (T28.setTop (mkF m 92 #[.val (.ref o0), .val (.int p1), .val (.long q2), .second, .val (.int p3), .val (.long q4), .second, .unset] [(.int p3), (.int n), (.ref ta)])) := K29.trans (by
    show Steps p.tables e below (T28.setTop (mkF m 90 #[.val (.ref o0), .val (.int p1), .val (.long q2), .second, .val (.int p3), .val (.long q4), .second, .unset] [(.int n), (.ref ta)])) _
    refine XS.iload X28.here hx rfl (hb hby d3_90) rfl ?_
    show Steps p.tables e below (T28.setTop (mkF m 92 #[.val (.ref o0), .val (.int p1), .val (.long q2), .second, .val (.int p3), .val (.long q4), .second, .unset] [(.int p3), (.int n), (.ref ta)])) _
    exact Steps.refl _)
  obtain ⟨v31_0, hv31_0, S31⟩ : ∃ (v31_0 : Int64), (if p3 = (0 : Int32) then (0 : Int64) else q4) = v31_0 ∧ Steps p.tables e below (T28.setTop (mkF m 92 #[.val (.ref o0), .val (.int p1), .val (.long q2), .second, .val (.int p3), .val (.long q4), .second, .unset] [(.int p3), (.int n), (.ref ta)])) (T28.setTop (mkF m 101 #[.val (.ref o0), .val (.int p1), .val (.long q2), .second, .val (.int p3), .val (.long q4), .second, .unset] [(.long v31_0), (.int n), (.ref ta)])) := by
    have R31 : Steps p.tables e below (T28.setTop (mkF m 92 #[.val (.ref o0), .val (.int p1), .val (.long q2), .second, .val (.int p3), .val (.long q4), .second, .unset] [(.int p3), (.int n), (.ref ta)])) (T28.setTop (mkF m 92 #[.val (.ref o0), .val (.int p1), .val (.long q2), .second, .val (.int p3), .val (.long q4), .second, .unset] [(.int p3), (.int n), (.ref ta)])) := Steps.refl _
    by_cases hc92 : p3 = (0 : Int32)
    · have K32 : Steps p.tables e below _ (T28.setTop (mkF m 101 #[.val (.ref o0), .val (.int p1), .val (.long q2), .second, .val (.int p3), .val (.long q4), .second, .unset] [(.long (0 : Int64)), (.int n), (.ref ta)])) := R31.trans (by
        show Steps p.tables e below (T28.setTop (mkF m 92 #[.val (.ref o0), .val (.int p1), .val (.long q2), .second, .val (.int p3), .val (.long q4), .second, .unset] [(.int p3), (.int n), (.ref ta)])) _
        refine XS.ifYes X28.here hx rfl (pc0 := 92) (pc' := 100) rfl (hb hby d3_92) rfl ((if0 _ _).trans (teq hc92).1) (by decide) (by decide) ?_
        show Steps p.tables e below (T28.setTop (mkF m 100 #[.val (.ref o0), .val (.int p1), .val (.long q2), .second, .val (.int p3), .val (.long q4), .second, .unset] [(.int n), (.ref ta)])) _
        refine XS.lconst X28.here hx rfl (hb hby d3_100) ?_
        show Steps p.tables e below (T28.setTop (mkF m 101 #[.val (.ref o0), .val (.int p1), .val (.long q2), .second, .val (.int p3), .val (.long q4), .second, .unset] [(.long (0 : Int64)), (.int n), (.ref ta)])) _
        exact Steps.refl _)
      exact ⟨(0 : Int64), (by rw [if_pos hc92]), K32⟩
    · have K33 : Steps p.tables e below _ (T28.setTop (mkF m 101 #[.val (.ref o0), .val (.int p1), .val (.long q2), .second, .val (.int p3), .val (.long q4), .second, .unset] [(.long q4), (.int n), (.ref ta)])) := R31.trans (by
        show Steps p.tables e below (T28.setTop (mkF m 92 #[.val (.ref o0), .val (.int p1), .val (.long q2), .second, .val (.int p3), .val (.long q4), .second, .unset] [(.int p3), (.int n), (.ref ta)])) _
        refine XS.ifNo X28.here hx rfl (hb hby d3_92) rfl ((if0 _ _).trans (feq hc92).1) ?_
        show Steps p.tables e below (T28.setTop (mkF m 95 #[.val (.ref o0), .val (.int p1), .val (.long q2), .second, .val (.int p3), .val (.long q4), .second, .unset] [(.int n), (.ref ta)])) _
        refine XS.lload X28.here hx rfl (hb hby d3_95) rfl ?_
        show Steps p.tables e below (T28.setTop (mkF m 97 #[.val (.ref o0), .val (.int p1), .val (.long q2), .second, .val (.int p3), .val (.long q4), .second, .unset] [(.long q4), (.int n), (.ref ta)])) _
        refine XS.goto X28.here hx rfl (pc0 := 97) (pc' := 101) rfl (hb hby d3_97) (by decide) (by decide) ?_
        show Steps p.tables e below (T28.setTop (mkF m 101 #[.val (.ref o0), .val (.int p1), .val (.long q2), .second, .val (.int p3), .val (.long q4), .second, .unset] [(.long q4), (.int n), (.ref ta)])) _
        exact Steps.refl _)
      exact ⟨q4, (by rw [if_neg hc92]), K33⟩
  have K34 := K30.trans S31
  have V_35 : Arv Z h20 ta kt .long z vt (.long (0 : Int64)) := (V_ta.other W20 (Ne.symm ne_fa_ta))
  obtain ⟨T36, h36, X36, e36, W36, V36, st36⟩ := own_stJ X28 hx hZ e28 V_35 (j := n) hq i hi ht (g := (mkF m 101 #[.val (.ref o0), .val (.int p1), .val (.long q2), .second, .val (.int p3), .val (.long q4), .second, .unset] [(.long v31_0), (.int n), (.ref ta)])) rfl rfl (hb hby d3_101)
  have K37 : Steps p.tables e below _ (T36.setTop (mkF m 102 #[.val (.ref o0), .val (.int p1), .val (.long q2), .second, .val (.int p3), .val (.long q4), .second, .unset] [])) := K34.trans st36
  have Vw36 : Arv Z h36 ta kt .long z (vt.set i (.long v31_0)) (.long (0 : Int64)) := V36
  have N36 := Fr.snoc X36 N20 g_ta
  have K38 : Steps p.tables e below _ (T36.setTop (mkF m 103 #[.val (.ref o0), .val (.int p1), .val (.long q2), .second, .val (.int p3), .val (.long q4), .second, .unset] [(.ref o0)])) := K37.trans (by
    show Steps p.tables e below (T36.setTop (mkF m 102 #[.val (.ref o0), .val (.int p1), .val (.long q2), .second, .val (.int p3), .val (.long q4), .second, .unset] [])) _
    refine XS.aloadN X36.here hx rfl (hb hby d3_102) rfl rfl ?_
    show Steps p.tables e below (T36.setTop (mkF m 103 #[.val (.ref o0), .val (.int p1), .val (.long q2), .second, .val (.int p3), .val (.long q4), .second, .unset] [(.ref o0)])) _
    exact Steps.refl _)
  have F_39 : Fld Z h36 o0 "com/example/spanfold/spanfold/RangeList" "ends" "[B" (.ref ea) := ((F_ends_o0.other W20 (Or.inl ne_o0_fa)).other W36 (Or.inl ne_o0_ta))
  obtain ⟨T40, X40, e40, st40⟩ := getF X36 hx hZ hown (host := "") (Or.inl (hw _ (List.mem_of_getElem? (i := 15) rfl))) Via.refl e36 F_39 (g := (mkF m 103 #[.val (.ref o0), .val (.int p1), .val (.long q2), .second, .val (.int p3), .val (.long q4), .second, .unset] [(.ref o0)])) rfl rfl (hb hby d3_103)
  have K41 : Steps p.tables e below _ (T40.setTop (mkF m 106 #[.val (.ref o0), .val (.int p1), .val (.long q2), .second, .val (.int p3), .val (.long q4), .second, .unset] [(.ref ea)])) := K38.trans (st40 _ (Steps.refl _))
  have K42 : Steps p.tables e below _ (T40.setTop (mkF m 107 #[.val (.ref o0), .val (.int p1), .val (.long q2), .second, .val (.int p3), .val (.long q4), .second, .unset] [(.ref o0), (.ref ea)])) := K41.trans (by
    show Steps p.tables e below (T40.setTop (mkF m 106 #[.val (.ref o0), .val (.int p1), .val (.long q2), .second, .val (.int p3), .val (.long q4), .second, .unset] [(.ref ea)])) _
    refine XS.aloadN X40.here hx rfl (hb hby d3_106) rfl rfl ?_
    show Steps p.tables e below (T40.setTop (mkF m 107 #[.val (.ref o0), .val (.int p1), .val (.long q2), .second, .val (.int p3), .val (.long q4), .second, .unset] [(.ref o0), (.ref ea)])) _
    exact Steps.refl _)
  have F_43 : Fld Z h36 o0 "com/example/spanfold/spanfold/RangeList" "size" "I" (.int n) := (F_27.other W36 (Or.inl ne_o0_ta))
  obtain ⟨T44, X44, e44, st44⟩ := getF X40 hx hZ hown (host := "") (Or.inl (hw _ (List.mem_of_getElem? (i := 22) rfl))) Via.refl e40 F_43 (g := (mkF m 107 #[.val (.ref o0), .val (.int p1), .val (.long q2), .second, .val (.int p3), .val (.long q4), .second, .unset] [(.ref o0), (.ref ea)])) rfl rfl (hb hby d3_107)
  have K45 : Steps p.tables e below _ (T44.setTop (mkF m 110 #[.val (.ref o0), .val (.int p1), .val (.long q2), .second, .val (.int p3), .val (.long q4), .second, .unset] [(.int n), (.ref ea)])) := K42.trans (st44 _ (Steps.refl _))
  have K46 : Steps p.tables e below _ (T44.setTop (mkF m 111 #[.val (.ref o0), .val (.int p1), .val (.long q2), .second, .val (.int p3), .val (.long q4), .second, .unset] [(.int p1), (.int n), (.ref ea)])) := K45.trans (by
    show Steps p.tables e below (T44.setTop (mkF m 110 #[.val (.ref o0), .val (.int p1), .val (.long q2), .second, .val (.int p3), .val (.long q4), .second, .unset] [(.int n), (.ref ea)])) _
    refine XS.iloadN X44.here hx rfl (hb hby d3_110) rfl ?_
    show Steps p.tables e below (T44.setTop (mkF m 111 #[.val (.ref o0), .val (.int p1), .val (.long q2), .second, .val (.int p3), .val (.long q4), .second, .unset] [(.int p1), (.int n), (.ref ea)])) _
    exact Steps.refl _)
  obtain ⟨v47_0, hv47_0, S47⟩ : ∃ (v47_0 : Int32), (if p1 = (0 : Int32) then (0 : Int32) else (1 : Int32)) = v47_0 ∧ Steps p.tables e below (T44.setTop (mkF m 111 #[.val (.ref o0), .val (.int p1), .val (.long q2), .second, .val (.int p3), .val (.long q4), .second, .unset] [(.int p1), (.int n), (.ref ea)])) (T44.setTop (mkF m 119 #[.val (.ref o0), .val (.int p1), .val (.long q2), .second, .val (.int p3), .val (.long q4), .second, .unset] [(.int v47_0), (.int n), (.ref ea)])) := by
    have R47 : Steps p.tables e below (T44.setTop (mkF m 111 #[.val (.ref o0), .val (.int p1), .val (.long q2), .second, .val (.int p3), .val (.long q4), .second, .unset] [(.int p1), (.int n), (.ref ea)])) (T44.setTop (mkF m 111 #[.val (.ref o0), .val (.int p1), .val (.long q2), .second, .val (.int p3), .val (.long q4), .second, .unset] [(.int p1), (.int n), (.ref ea)])) := Steps.refl _
    by_cases hc111 : p1 = (0 : Int32)
    · have K48 : Steps p.tables e below _ (T44.setTop (mkF m 119 #[.val (.ref o0), .val (.int p1), .val (.long q2), .second, .val (.int p3), .val (.long q4), .second, .unset] [(.int (0 : Int32)), (.int n), (.ref ea)])) := R47.trans (by
        show Steps p.tables e below (T44.setTop (mkF m 111 #[.val (.ref o0), .val (.int p1), .val (.long q2), .second, .val (.int p3), .val (.long q4), .second, .unset] [(.int p1), (.int n), (.ref ea)])) _
        refine XS.ifYes X44.here hx rfl (pc0 := 111) (pc' := 118) rfl (hb hby d3_111) rfl ((if0 _ _).trans (teq hc111).1) (by decide) (by decide) ?_
        show Steps p.tables e below (T44.setTop (mkF m 118 #[.val (.ref o0), .val (.int p1), .val (.long q2), .second, .val (.int p3), .val (.long q4), .second, .unset] [(.int n), (.ref ea)])) _
        refine XS.iconst X44.here hx rfl (hb hby d3_118) ?_
        show Steps p.tables e below (T44.setTop (mkF m 119 #[.val (.ref o0), .val (.int p1), .val (.long q2), .second, .val (.int p3), .val (.long q4), .second, .unset] [(.int (0 : Int32)), (.int n), (.ref ea)])) _
        exact Steps.refl _)
      exact ⟨(0 : Int32), (by rw [if_pos hc111]), K48⟩
    · have K49 : Steps p.tables e below _ (T44.setTop (mkF m 119 #[.val (.ref o0), .val (.int p1), .val (.long q2), .second, .val (.int p3), .val (.long q4), .second, .unset] [(.int (1 : Int32)), (.int n), (.ref ea)])) := R47.trans (by
        show Steps p.tables e below (T44.setTop (mkF m 111 #[.val (.ref o0), .val (.int p1), .val (.long q2), .second, .val (.int p3), .val (.long q4), .second, .unset] [(.int p1), (.int n), (.ref ea)])) _
        refine XS.ifNo X44.here hx rfl (hb hby d3_111) rfl ((if0 _ _).trans (feq hc111).1) ?_
        show Steps p.tables e below (T44.setTop (mkF m 114 #[.val (.ref o0), .val (.int p1), .val (.long q2), .second, .val (.int p3), .val (.long q4), .second, .unset] [(.int n), (.ref ea)])) _
        refine XS.iconst X44.here hx rfl (hb hby d3_114) ?_
        show Steps p.tables e below (T44.setTop (mkF m 115 #[.val (.ref o0), .val (.int p1), .val (.long q2), .second, .val (.int p3), .val (.long q4), .second, .unset] [(.int (1 : Int32)), (.int n), (.ref ea)])) _
        refine XS.goto X44.here hx rfl (pc0 := 115) (pc' := 119) rfl (hb hby d3_115) (by decide) (by decide) ?_
        show Steps p.tables e below (T44.setTop (mkF m 119 #[.val (.ref o0), .val (.int p1), .val (.long q2), .second, .val (.int p3), .val (.long q4), .second, .unset] [(.int (1 : Int32)), (.int n), (.ref ea)])) _
        exact Steps.refl _)
      exact ⟨(1 : Int32), (by rw [if_neg hc111]), K49⟩
  have K50 := K46.trans S47
  have K51 : Steps p.tables e below _ (T44.setTop (mkF m 121 #[.val (.ref o0), .val (.int p1), .val (.long q2), .second, .val (.int p3), .val (.long q4), .second, .unset] [(.int p3), (.int v47_0), (.int n), (.ref ea)])) := K50.trans (by
    show Steps p.tables e below (T44.setTop (mkF m 119 #[.val (.ref o0), .val (.int p1), .val (.long q2), .second, .val (.int p3), .val (.long q4), .second, .unset] [(.int v47_0), (.int n), (.ref ea)])) _
    refine XS.iload X44.here hx rfl (hb hby d3_119) rfl ?_
    show Steps p.tables e below (T44.setTop (mkF m 121 #[.val (.ref o0), .val (.int p1), .val (.long q2), .second, .val (.int p3), .val (.long q4), .second, .unset] [(.int p3), (.int v47_0), (.int n), (.ref ea)])) _
    exact Steps.refl _)
  obtain ⟨v52_0, hv52_0, S52⟩ : ∃ (v52_0 : Int32), (if p3 = (0 : Int32) then (0 : Int32) else (2 : Int32)) = v52_0 ∧ Steps p.tables e below (T44.setTop (mkF m 121 #[.val (.ref o0), .val (.int p1), .val (.long q2), .second, .val (.int p3), .val (.long q4), .second, .unset] [(.int p3), (.int v47_0), (.int n), (.ref ea)])) (T44.setTop (mkF m 129 #[.val (.ref o0), .val (.int p1), .val (.long q2), .second, .val (.int p3), .val (.long q4), .second, .unset] [(.int v52_0), (.int v47_0), (.int n), (.ref ea)])) := by
    have R52 : Steps p.tables e below (T44.setTop (mkF m 121 #[.val (.ref o0), .val (.int p1), .val (.long q2), .second, .val (.int p3), .val (.long q4), .second, .unset] [(.int p3), (.int v47_0), (.int n), (.ref ea)])) (T44.setTop (mkF m 121 #[.val (.ref o0), .val (.int p1), .val (.long q2), .second, .val (.int p3), .val (.long q4), .second, .unset] [(.int p3), (.int v47_0), (.int n), (.ref ea)])) := Steps.refl _
    by_cases hc121 : p3 = (0 : Int32)
    · have K53 : Steps p.tables e below _ (T44.setTop (mkF m 129 #[.val (.ref o0), .val (.int p1), .val (.long q2), .second, .val (.int p3), .val (.long q4), .second, .unset] [(.int (0 : Int32)), (.int v47_0), (.int n), (.ref ea)])) := R52.trans (by
        show Steps p.tables e below (T44.setTop (mkF m 121 #[.val (.ref o0), .val (.int p1), .val (.long q2), .second, .val (.int p3), .val (.long q4), .second, .unset] [(.int p3), (.int v47_0), (.int n), (.ref ea)])) _
        refine XS.ifYes X44.here hx rfl (pc0 := 121) (pc' := 128) rfl (hb hby d3_121) rfl ((if0 _ _).trans (teq hc121).1) (by decide) (by decide) ?_
        show Steps p.tables e below (T44.setTop (mkF m 128 #[.val (.ref o0), .val (.int p1), .val (.long q2), .second, .val (.int p3), .val (.long q4), .second, .unset] [(.int v47_0), (.int n), (.ref ea)])) _
        refine XS.iconst X44.here hx rfl (hb hby d3_128) ?_
        show Steps p.tables e below (T44.setTop (mkF m 129 #[.val (.ref o0), .val (.int p1), .val (.long q2), .second, .val (.int p3), .val (.long q4), .second, .unset] [(.int (0 : Int32)), (.int v47_0), (.int n), (.ref ea)])) _
        exact Steps.refl _)
      exact ⟨(0 : Int32), (by rw [if_pos hc121]), K53⟩
    · have K54 : Steps p.tables e below _ (T44.setTop (mkF m 129 #[.val (.ref o0), .val (.int p1), .val (.long q2), .second, .val (.int p3), .val (.long q4), .second, .unset] [(.int (2 : Int32)), (.int v47_0), (.int n), (.ref ea)])) := R52.trans (by
        show Steps p.tables e below (T44.setTop (mkF m 121 #[.val (.ref o0), .val (.int p1), .val (.long q2), .second, .val (.int p3), .val (.long q4), .second, .unset] [(.int p3), (.int v47_0), (.int n), (.ref ea)])) _
        refine XS.ifNo X44.here hx rfl (hb hby d3_121) rfl ((if0 _ _).trans (feq hc121).1) ?_
        show Steps p.tables e below (T44.setTop (mkF m 124 #[.val (.ref o0), .val (.int p1), .val (.long q2), .second, .val (.int p3), .val (.long q4), .second, .unset] [(.int v47_0), (.int n), (.ref ea)])) _
        refine XS.iconst X44.here hx rfl (hb hby d3_124) ?_
        show Steps p.tables e below (T44.setTop (mkF m 125 #[.val (.ref o0), .val (.int p1), .val (.long q2), .second, .val (.int p3), .val (.long q4), .second, .unset] [(.int (2 : Int32)), (.int v47_0), (.int n), (.ref ea)])) _
        refine XS.goto X44.here hx rfl (pc0 := 125) (pc' := 129) rfl (hb hby d3_125) (by decide) (by decide) ?_
        show Steps p.tables e below (T44.setTop (mkF m 129 #[.val (.ref o0), .val (.int p1), .val (.long q2), .second, .val (.int p3), .val (.long q4), .second, .unset] [(.int (2 : Int32)), (.int v47_0), (.int n), (.ref ea)])) _
        exact Steps.refl _)
      exact ⟨(2 : Int32), (by rw [if_neg hc121]), K54⟩
  have K55 := K51.trans S52
  have K56 : Steps p.tables e below _ (T44.setTop (mkF m 131 #[.val (.ref o0), .val (.int p1), .val (.long q2), .second, .val (.int p3), .val (.long q4), .second, .unset] [(.int ((v47_0 ||| v52_0).toInt8.toInt32)), (.int n), (.ref ea)])) := K55.trans (by
    show Steps p.tables e below (T44.setTop (mkF m 129 #[.val (.ref o0), .val (.int p1), .val (.long q2), .second, .val (.int p3), .val (.long q4), .second, .unset] [(.int v52_0), (.int v47_0), (.int n), (.ref ea)])) _
    refine XS.ior X44.here hx rfl (hb hby d3_129) rfl ?_
    show Steps p.tables e below (T44.setTop (mkF m 130 #[.val (.ref o0), .val (.int p1), .val (.long q2), .second, .val (.int p3), .val (.long q4), .second, .unset] [(.int (v47_0 ||| v52_0)), (.int n), (.ref ea)])) _
    refine XS.i2b X44.here hx rfl (hb hby d3_130) rfl ?_
    show Steps p.tables e below (T44.setTop (mkF m 131 #[.val (.ref o0), .val (.int p1), .val (.long q2), .second, .val (.int p3), .val (.long q4), .second, .unset] [(.int ((v47_0 ||| v52_0).toInt8.toInt32)), (.int n), (.ref ea)])) _
    exact Steps.refl _)
  have V_57 : Arv Z h36 ea ke .byte z ve (.int (0 : Int32)) := ((V_ea.other W20 (Ne.symm ne_fa_ea)).other W36 (Ne.symm ne_ta_ea))
  obtain ⟨T58, h58, X58, e58, W58, V58, st58⟩ := own_stB X44 hx hZ e44 V_57 (j := n) hq i hi he (g := (mkF m 131 #[.val (.ref o0), .val (.int p1), .val (.long q2), .second, .val (.int p3), .val (.long q4), .second, .unset] [(.int ((v47_0 ||| v52_0).toInt8.toInt32)), (.int n), (.ref ea)])) rfl rfl (hb hby d3_131)
  have K59 : Steps p.tables e below _ (T58.setTop (mkF m 132 #[.val (.ref o0), .val (.int p1), .val (.long q2), .second, .val (.int p3), .val (.long q4), .second, .unset] [])) := K56.trans st58
  have Vw58 : Arv Z h58 ea ke .byte z (ve.set i (.int (((v47_0 ||| v52_0).toInt8.toInt32).toInt8.toInt32))) (.int (0 : Int32)) := V58
  have N58 := Fr.snoc X58 N36 g_ea
  have K60 : Steps p.tables e below _ (T58.setTop (mkF m 134 #[.val (.ref o0), .val (.int p1), .val (.long q2), .second, .val (.int p3), .val (.long q4), .second, .unset] [(.ref o0), (.ref o0)])) := K59.trans (by
    show Steps p.tables e below (T58.setTop (mkF m 132 #[.val (.ref o0), .val (.int p1), .val (.long q2), .second, .val (.int p3), .val (.long q4), .second, .unset] [])) _
    refine XS.aloadN X58.here hx rfl (hb hby d3_132) rfl rfl ?_
    show Steps p.tables e below (T58.setTop (mkF m 133 #[.val (.ref o0), .val (.int p1), .val (.long q2), .second, .val (.int p3), .val (.long q4), .second, .unset] [(.ref o0)])) _
    refine XS.dup X58.here hx rfl (hb hby d3_133) rfl rfl ?_
    show Steps p.tables e below (T58.setTop (mkF m 134 #[.val (.ref o0), .val (.int p1), .val (.long q2), .second, .val (.int p3), .val (.long q4), .second, .unset] [(.ref o0), (.ref o0)])) _
    exact Steps.refl _)
  have F_61 : Fld Z h58 o0 "com/example/spanfold/spanfold/RangeList" "size" "I" (.int n) := (F_43.other W58 (Or.inl ne_o0_ea))
  obtain ⟨T62, X62, e62, st62⟩ := getF X58 hx hZ hown (host := "") (Or.inl (hw _ (List.mem_of_getElem? (i := 22) rfl))) Via.refl e58 F_61 (g := (mkF m 134 #[.val (.ref o0), .val (.int p1), .val (.long q2), .second, .val (.int p3), .val (.long q4), .second, .unset] [(.ref o0), (.ref o0)])) rfl rfl (hb hby d3_134)
  have K63 : Steps p.tables e below _ (T62.setTop (mkF m 137 #[.val (.ref o0), .val (.int p1), .val (.long q2), .second, .val (.int p3), .val (.long q4), .second, .unset] [(.int n), (.ref o0)])) := K60.trans (st62 _ (Steps.refl _))
  have K64 : Steps p.tables e below _ (T62.setTop (mkF m 139 #[.val (.ref o0), .val (.int p1), .val (.long q2), .second, .val (.int p3), .val (.long q4), .second, .unset] [(.int (n + (1 : Int32))), (.ref o0)])) := K63.trans (by
    show Steps p.tables e below (T62.setTop (mkF m 137 #[.val (.ref o0), .val (.int p1), .val (.long q2), .second, .val (.int p3), .val (.long q4), .second, .unset] [(.int n), (.ref o0)])) _
    refine XS.iconst X62.here hx rfl (hb hby d3_137) ?_
    show Steps p.tables e below (T62.setTop (mkF m 138 #[.val (.ref o0), .val (.int p1), .val (.long q2), .second, .val (.int p3), .val (.long q4), .second, .unset] [(.int (1 : Int32)), (.int n), (.ref o0)])) _
    refine XS.iadd X62.here hx rfl (hb hby d3_138) rfl ?_
    show Steps p.tables e below (T62.setTop (mkF m 139 #[.val (.ref o0), .val (.int p1), .val (.long q2), .second, .val (.int p3), .val (.long q4), .second, .unset] [(.int (n + (1 : Int32))), (.ref o0)])) _
    exact Steps.refl _)
  have E_65 : Exa Z h58 o0 "com/example/spanfold/spanfold/RangeList" := (((E_o0.wr W20).wr W36).wr W58)
  obtain ⟨T66, h66, X66, e66, W66, st66⟩ := putF X62 hx hZ hown (host := "") (Or.inl (hw _ (List.mem_of_getElem? (i := 22) rfl))) Via.refl e62 F_61 E_65 (Or.inl (hw _ (List.mem_of_getElem? (i := 23) rfl))) (hw _ (List.mem_of_getElem? (i := 1) rfl)) (ty := .int) (by decide) rfl rfl (g := (mkF m 139 #[.val (.ref o0), .val (.int p1), .val (.long q2), .second, .val (.int p3), .val (.long q4), .second, .unset] [(.int (n + (1 : Int32))), (.ref o0)])) rfl rfl (hb hby d3_139)
  have K67 : Steps p.tables e below _ (T66.setTop (mkF m 142 #[.val (.ref o0), .val (.int p1), .val (.long q2), .second, .val (.int p3), .val (.long q4), .second, .unset] [])) := K64.trans (st66 _ (Steps.refl _))
  have Fw66 : Fld Z h66 o0 "com/example/spanfold/spanfold/RangeList" "size" "I" (.int (n + (1 : Int32))) := F_61.same W66
  have N66 := Fr.snoc X66 N58 g_o0
  subst hv52_0
  subst hv47_0
  subst hv31_0
  subst hv16_0
  obtain ⟨fs, hr, hrun, hended, hW, hsame⟩ := X66.leave (v := none) (fun _ => rfl)
  have K_68 : Keep h0 h66 [o0, fa, ta, ea] := ((((Kp0.wr W20 (Or.inl (List.mem_of_getElem? (i := 1) rfl))).wr W36 (Or.inl (List.mem_of_getElem? (i := 2) rfl))).wr W58 (Or.inl (List.mem_of_getElem? (i := 3) rfl))).wr W66 (Or.inl (List.mem_of_getElem? (i := 0) rfl)))
  have E_69 : Exa Z h66 o0 "com/example/spanfold/spanfold/RangeList" := (E_65.wr W66)
  have F_70 : Fld Z h66 o0 "com/example/spanfold/spanfold/RangeList" "froms" "[J" (.ref fa) := ((((F_froms_o0.other W20 (Or.inl ne_o0_fa)).other W36 (Or.inl ne_o0_ta)).other W58 (Or.inl ne_o0_ea)).other W66 (Or.inr (slot_ne (Or.inl (hw _ (List.mem_of_getElem? (i := 11) rfl))) (Or.inl (hw _ (List.mem_of_getElem? (i := 23) rfl))) (by decide) (t := (.array .long)) (t' := .int) (by decide) (by decide))))
  have F_71 : Fld Z h66 o0 "com/example/spanfold/spanfold/RangeList" "tos" "[J" (.ref ta) := (((F_23.other W36 (Or.inl ne_o0_ta)).other W58 (Or.inl ne_o0_ea)).other W66 (Or.inr (slot_ne (Or.inl (hw _ (List.mem_of_getElem? (i := 13) rfl))) (Or.inl (hw _ (List.mem_of_getElem? (i := 23) rfl))) (by decide) (t := (.array .long)) (t' := .int) (by decide) (by decide))))
  have F_72 : Fld Z h66 o0 "com/example/spanfold/spanfold/RangeList" "ends" "[B" (.ref ea) := ((F_39.other W58 (Or.inl ne_o0_ea)).other W66 (Or.inr (slot_ne (Or.inl (hw _ (List.mem_of_getElem? (i := 16) rfl))) (Or.inl (hw _ (List.mem_of_getElem? (i := 23) rfl))) (by decide) (t := (.array .byte)) (t' := .int) (by decide) (by decide))))
  have V_73 : Arv Z h66 fa kf .long z (vf.set i (.long (if p1 = (0 : Int32) then (0 : Int64) else q2))) (.long (0 : Int64)) := (((Vw20.other W36 ne_fa_ta).other W58 ne_fa_ea).other W66 (Ne.symm ne_o0_fa))
  have V_74 : Arv Z h66 ta kt .long z (vt.set i (.long (if p3 = (0 : Int32) then (0 : Int64) else q4))) (.long (0 : Int64)) := ((Vw36.other W58 ne_ta_ea).other W66 (Ne.symm ne_o0_ta))
  have V_75 : Arv Z h66 ea ke .byte z (ve.set i (.int ((((if p1 = (0 : Int32) then (0 : Int32) else (1 : Int32)) ||| (if p3 = (0 : Int32) then (0 : Int32) else (2 : Int32))).toInt8.toInt32).toInt8.toInt32))) (.int (0 : Int32)) := (Vw58.other W66 (Ne.symm ne_o0_ea))
  refine ⟨_, _, K67.trans (X66.returnOut hx Bd.returns (hb hby d3_142) hr), hrun, hended, _, _, rfl, ?_, ⟨_, rfl⟩, hW, hsame.mono (by decide) (by first | decide | omega)⟩
  show Q_rm3n Z o0 p1 q2 p3 q4 fa ta ea kf kt ke z vf vt ve n i h0 n0 _ T66.heap _
  rw [e66]
  exact ⟨rfl, N66, K_68, E_69, F_70, F_71, F_72, Fw66, V_73, V_74, V_75⟩
theorem d3_12 : decode prog_13_method_7_code 12 = .ok (.bipush 8, 2) := by decide +kernel
theorem d3_14 : decode prog_13_method_7_code 14 = .ok (.aload_n 0, 1) := by decide +kernel
theorem d3_15 : decode prog_13_method_7_code 15 = .ok (.getfield 20, 3) := by decide +kernel
theorem d3_18 : decode prog_13_method_7_code 18 = .ok (.iconst 2, 1) := by decide +kernel
theorem d3_19 : decode prog_13_method_7_code 19 = .ok (.imul, 1) := by decide +kernel
theorem d3_20 : decode prog_13_method_7_code 20 = .ok (.invokestatic 30, 3) := by decide +kernel
theorem d3_23 : decode prog_13_method_7_code 23 = .ok (.istore 7, 2) := by decide +kernel
theorem d3_25 : decode prog_13_method_7_code 25 = .ok (.aload_n 0, 1) := by decide +kernel
theorem d3_26 : decode prog_13_method_7_code 26 = .ok (.aload_n 0, 1) := by decide +kernel
theorem d3_27 : decode prog_13_method_7_code 27 = .ok (.getfield 7, 3) := by decide +kernel
theorem d3_30 : decode prog_13_method_7_code 30 = .ok (.iload 7, 2) := by decide +kernel
theorem pd_2 : parseMethodDescriptor "([JI)[J" = some ⟨[(.array .long), .int], some (.array .long)⟩ := by decide +kernel
theorem d3_32 : decode prog_13_method_7_code 32 = .ok (.invokestatic 35, 3) := by decide +kernel
theorem d3_35 : decode prog_13_method_7_code 35 = .ok (.putfield 7, 3) := by decide +kernel
theorem d3_38 : decode prog_13_method_7_code 38 = .ok (.aload_n 0, 1) := by decide +kernel
theorem d3_39 : decode prog_13_method_7_code 39 = .ok (.aload_n 0, 1) := by decide +kernel
theorem d3_40 : decode prog_13_method_7_code 40 = .ok (.getfield 13, 3) := by decide +kernel
theorem d3_43 : decode prog_13_method_7_code 43 = .ok (.iload 7, 2) := by decide +kernel
theorem d3_45 : decode prog_13_method_7_code 45 = .ok (.invokestatic 35, 3) := by decide +kernel
theorem d3_48 : decode prog_13_method_7_code 48 = .ok (.putfield 13, 3) := by decide +kernel
theorem d3_51 : decode prog_13_method_7_code 51 = .ok (.aload_n 0, 1) := by decide +kernel
theorem d3_52 : decode prog_13_method_7_code 52 = .ok (.aload_n 0, 1) := by decide +kernel
theorem d3_53 : decode prog_13_method_7_code 53 = .ok (.getfield 16, 3) := by decide +kernel
theorem d3_56 : decode prog_13_method_7_code 56 = .ok (.iload 7, 2) := by decide +kernel
theorem pd_3 : parseMethodDescriptor "([BI)[B" = some ⟨[(.array .byte), .int], some (.array .byte)⟩ := by decide +kernel
theorem d3_58 : decode prog_13_method_7_code 58 = .ok (.invokestatic 41, 3) := by decide +kernel
theorem d3_61 : decode prog_13_method_7_code 61 = .ok (.putfield 16, 3) := by decide +kernel
def Q_rm3g (Z : State) (o0 : Addr) (p1 : Int32) (q2 : Int64) (p3 : Int32) (q4 : Int64) (fa : Addr) (ta : Addr) (ea : Addr) (kf : ClassId) (kt : ClassId) (ke : ClassId) (z : Int32) (vf : List Value) (vt : List Value) (ve : List Value) (n : Int32) (i : Nat) (h0 : Heap) (n0 : Nat) (v : Option Value) (h : Heap) (L : List Loc) : Prop := ∃ b19_b4 : Addr, ∃ b32_b4 : Addr, ∃ b50_b4 : Addr, ∃ k4_19 : ClassId, ∃ k4_32 : ClassId, ∃ k4_50 : ClassId, v = none ∧ Fr n0 L ∧ Keep h0 h [o0] ∧ Exa Z h o0 "com/example/spanfold/spanfold/RangeList" ∧ Fld Z h o0 "com/example/spanfold/spanfold/RangeList" "froms" "[J" (.ref b19_b4) ∧ Fld Z h o0 "com/example/spanfold/spanfold/RangeList" "tos" "[J" (.ref b32_b4) ∧ Fld Z h o0 "com/example/spanfold/spanfold/RangeList" "ends" "[B" (.ref b50_b4) ∧ Fld Z h o0 "com/example/spanfold/spanfold/RangeList" "size" "I" (.int (n + (1 : Int32))) ∧ Exa Z h b19_b4 "[J" ∧ Arv Z h b19_b4 k4_19 .long (8 : Int32) ((own_cp 8 z.toNatClampNeg vf (.long (0 : Int64))).set i (.long (if p1 = (0 : Int32) then (0 : Int64) else q2))) (.long (0 : Int64)) ∧ Exa Z h b32_b4 "[J" ∧ Arv Z h b32_b4 k4_32 .long (8 : Int32) ((own_cp 8 z.toNatClampNeg vt (.long (0 : Int64))).set i (.long (if p3 = (0 : Int32) then (0 : Int64) else q4))) (.long (0 : Int64)) ∧ Exa Z h b50_b4 "[B" ∧ Arv Z h b50_b4 k4_50 .byte (8 : Int32) ((own_cp 8 z.toNatClampNeg ve (.int (0 : Int32))).set i (.int ((((if p1 = (0 : Int32) then (0 : Int32) else (1 : Int32)) ||| (if p3 = (0 : Int32) then (0 : Int32) else (2 : Int32))).toInt8.toInt32).toInt8.toInt32))) (.int (0 : Int32)) ∧ h0.size ≤ b19_b4 ∧ h0.size ≤ b32_b4 ∧ h0.size ≤ b50_b4 ∧ b19_b4 ≠ b32_b4 ∧ b19_b4 ≠ b50_b4 ∧ b32_b4 ≠ b50_b4
set_option maxRecDepth 65536 in
set_option maxHeartbeats 40000000 in
theorem rm3g (l : Launch) (Z : State) (a0 : Array Value) (hw : ∀ d ∈ tables_1, d.before a0 Z = true) (ws : List Jvm.Cond) (o0 : Addr) (p1 : Int32) (q2 : Int64) (p3 : Int32) (q4 : Int64) (fa : Addr) (ta : Addr) (ea : Addr) (kf : ClassId) (kt : ClassId) (ke : ClassId) (z : Int32) (vf : List Value) (vt : List Value) (ve : List Value) (n : Int32) (i : Nat) (h0 : Heap) (n0 : Nat) (Z0 : n0 ≤ h0.size) (E_o0 : Exa Z h0 o0 "com/example/spanfold/spanfold/RangeList") (F_froms_o0 : Fld Z h0 o0 "com/example/spanfold/spanfold/RangeList" "froms" "[J" (.ref fa)) (F_tos_o0 : Fld Z h0 o0 "com/example/spanfold/spanfold/RangeList" "tos" "[J" (.ref ta)) (F_ends_o0 : Fld Z h0 o0 "com/example/spanfold/spanfold/RangeList" "ends" "[B" (.ref ea)) (F_size_o0 : Fld Z h0 o0 "com/example/spanfold/spanfold/RangeList" "size" "I" (.int n)) (V_fa : Arv Z h0 fa kf .long z vf (.long (0 : Int64))) (V_ta : Arv Z h0 ta kt .long z vt (.long (0 : Int64))) (V_ea : Arv Z h0 ea ke .byte z ve (.int (0 : Int32))) (ne_o0_fa : o0 ≠ fa) (ne_o0_ta : o0 ≠ ta) (ne_o0_ea : o0 ≠ ea) (ne_fa_ta : fa ≠ ta) (ne_fa_ea : fa ≠ ea) (ne_ta_ea : ta ≠ ea) (g_o0 : n0 ≤ o0) (hnz : n = z) (hq : ¬ (z < (0 : Int32))) (hz8 : z < (8 : Int32)) (hzn : z.toNatClampNeg ≤ 8) (hq8 : ¬ (n < (0 : Int32)) ∧ n < (8 : Int32)) (hi : n.toNatClampNeg = i) (hlen : i < 8) (hm : (if (8 : Int32) < (n * (2 : Int32)) then (n * (2 : Int32)) else (8 : Int32)) = (8 : Int32)) :
    MetFree l (⟨"com/example/spanfold/spanfold/RangeList", "add", "(ZJZJ)V"⟩ : MethodName) (head1 (Jvm.Cond.code (⟨"com/example/spanfold/spanfold/RangeList", "add", "(ZJZJ)V"⟩ : MethodName) prog_13_method_7_code 8 none :: ws) ({ frames := 2, cells := 3, slots := 24, locals := 51 } : Room)) (fun a U => a = #[(.ref o0), (.int p1), (.long q2), (.int p3), (.long q4)] ∧ Z.Warmed39 U.vm ∧ U.heap = h0) (fun _ _ _ _ _ => True) (fun _ U o U' => ∃ v L, o = .returned v ∧ Q_rm3g Z o0 p1 q2 p3 q4 fa ta ea kf kt ke z vf vt ve n i h0 n0 v U'.heap L ∧ FrameEnd U o U' L ({ frames := 2, cells := 3, slots := 24, locals := 51 } : Room).cells ({ frames := 2, cells := 3, slots := 24, locals := 51 } : Room).slots) := by
  refine MetFree.of_bodySF (plainFor_of_name pn_3) hisR ?_
  intro p e s m args below meth c s₁ Bd hml0 hP hK
  obtain ⟨rfl, hZ, hh⟩ := hP
  have hx := Bd.exec
  have hby := Bd.bytes
  have hml : c.maxLocals = 8 := hml0
  have hown : s.vm.findClass "com/example/spanfold/spanfold/RangeList" = some m.cls := findClass_of_methodNamed Bd.named
  have hnm := (name_of_methodNamed Bd.named Bd.method).1
  have X0 : Stand p l e ({ frames := 2, cells := 3, slots := 24, locals := 51 } : Room) s m #[(.ref o0), (.int p1), (.long q2), (.int p3), (.long q4)] below meth c s₁ [] 0 0 := Stand.of_body Bd
  have e0 : s₁.heap = h0 := by rw [← hh, Bd.state]; rfl
  have N0 := Fr.nil n0
  have Kp0 : Keep h0 h0 [o0] := Keep.refl _ _
  have K0 : Steps p.tables e below (s₁.setTop (entryFrame m #[(.ref o0), (.int p1), (.long q2), (.int p3), (.long q4)] 8)) (s₁.setTop (mkF m 0 #[.val (.ref o0), .val (.int p1), .val (.long q2), .second, .val (.int p3), .val (.long q4), .second, .unset] [])) := castTop (ef_3 m o0 p1 q2 p3 q4) (Steps.refl _)
  have K1 : Steps p.tables e below _ (s₁.setTop (mkF m 1 #[.val (.ref o0), .val (.int p1), .val (.long q2), .second, .val (.int p3), .val (.long q4), .second, .unset] [(.ref o0)])) := K0.trans (by
    show Steps p.tables e below (s₁.setTop (mkF m 0 #[.val (.ref o0), .val (.int p1), .val (.long q2), .second, .val (.int p3), .val (.long q4), .second, .unset] [])) _
    refine XS.aloadN X0.here hx rfl (hb hby d3_0) rfl rfl ?_
    show Steps p.tables e below (s₁.setTop (mkF m 1 #[.val (.ref o0), .val (.int p1), .val (.long q2), .second, .val (.int p3), .val (.long q4), .second, .unset] [(.ref o0)])) _
    exact Steps.refl _)
  obtain ⟨T2, X2, e2, st2⟩ := getF X0 hx hZ hown (host := "") (Or.inl (hw _ (List.mem_of_getElem? (i := 22) rfl))) Via.refl e0 F_size_o0 (g := (mkF m 1 #[.val (.ref o0), .val (.int p1), .val (.long q2), .second, .val (.int p3), .val (.long q4), .second, .unset] [(.ref o0)])) rfl rfl (hb hby d3_1)
  have K3 : Steps p.tables e below _ (T2.setTop (mkF m 4 #[.val (.ref o0), .val (.int p1), .val (.long q2), .second, .val (.int p3), .val (.long q4), .second, .unset] [(.int n)])) := K1.trans (st2 _ (Steps.refl _))
  have K4 : Steps p.tables e below _ (T2.setTop (mkF m 5 #[.val (.ref o0), .val (.int p1), .val (.long q2), .second, .val (.int p3), .val (.long q4), .second, .unset] [(.ref o0), (.int n)])) := K3.trans (by
    show Steps p.tables e below (T2.setTop (mkF m 4 #[.val (.ref o0), .val (.int p1), .val (.long q2), .second, .val (.int p3), .val (.long q4), .second, .unset] [(.int n)])) _
    refine XS.aloadN X2.here hx rfl (hb hby d3_4) rfl rfl ?_
    show Steps p.tables e below (T2.setTop (mkF m 5 #[.val (.ref o0), .val (.int p1), .val (.long q2), .second, .val (.int p3), .val (.long q4), .second, .unset] [(.ref o0), (.int n)])) _
    exact Steps.refl _)
  obtain ⟨T5, X5, e5, st5⟩ := getF X2 hx hZ hown (host := "") (Or.inl (hw _ (List.mem_of_getElem? (i := 10) rfl))) Via.refl e2 F_froms_o0 (g := (mkF m 5 #[.val (.ref o0), .val (.int p1), .val (.long q2), .second, .val (.int p3), .val (.long q4), .second, .unset] [(.ref o0), (.int n)])) rfl rfl (hb hby d3_5)
  have K6 : Steps p.tables e below _ (T5.setTop (mkF m 8 #[.val (.ref o0), .val (.int p1), .val (.long q2), .second, .val (.int p3), .val (.long q4), .second, .unset] [(.ref fa), (.int n)])) := K4.trans (st5 _ (Steps.refl _))
  have K8 : Steps p.tables e below _ (T5.setTop (mkF m 9 #[.val (.ref o0), .val (.int p1), .val (.long q2), .second, .val (.int p3), .val (.long q4), .second, .unset] [(.int z), (.int n)])) := K6.trans (by
    show Steps p.tables e below (T5.setTop (mkF m 8 #[.val (.ref o0), .val (.int p1), .val (.long q2), .second, .val (.int p3), .val (.long q4), .second, .unset] [(.ref fa), (.int n)])) _
    refine (own_len X5 hx hZ e5 V_fa (g := (mkF m 8 #[.val (.ref o0), .val (.int p1), .val (.long q2), .second, .val (.int p3), .val (.long q4), .second, .unset] [(.ref fa), (.int n)])) rfl rfl (hb hby d3_8)).trans ?_
    show Steps p.tables e below (T5.setTop (mkF m 9 #[.val (.ref o0), .val (.int p1), .val (.long q2), .second, .val (.int p3), .val (.long q4), .second, .unset] [(.int z), (.int n)])) _
    exact Steps.refl _)
  have hc9_6 : n = z := hnz
  have K9 : Steps p.tables e below _ (T5.setTop (mkF m 15 #[.val (.ref o0), .val (.int p1), .val (.long q2), .second, .val (.int p3), .val (.long q4), .second, .unset] [(.ref o0), (.int (8 : Int32))])) := K8.trans (by
    show Steps p.tables e below (T5.setTop (mkF m 9 #[.val (.ref o0), .val (.int p1), .val (.long q2), .second, .val (.int p3), .val (.long q4), .second, .unset] [(.int z), (.int n)])) _
    refine XS.icmpNo X5.here hx rfl (hb hby d3_9) rfl (teq hc9_6).2 ?_
    show Steps p.tables e below (T5.setTop (mkF m 12 #[.val (.ref o0), .val (.int p1), .val (.long q2), .second, .val (.int p3), .val (.long q4), .second, .unset] [])) _
    refine XS.bipush X5.here hx rfl (hb hby d3_12) ?_
    show Steps p.tables e below (T5.setTop (mkF m 14 #[.val (.ref o0), .val (.int p1), .val (.long q2), .second, .val (.int p3), .val (.long q4), .second, .unset] [(.int (8 : Int32))])) _
    refine XS.aloadN X5.here hx rfl (hb hby d3_14) rfl rfl ?_
    show Steps p.tables e below (T5.setTop (mkF m 15 #[.val (.ref o0), .val (.int p1), .val (.long q2), .second, .val (.int p3), .val (.long q4), .second, .unset] [(.ref o0), (.int (8 : Int32))])) _
    exact Steps.refl _)
  obtain ⟨T10, X10, e10, st10⟩ := getF X5 hx hZ hown (host := "") (Or.inl (hw _ (List.mem_of_getElem? (i := 22) rfl))) Via.refl e5 F_size_o0 (g := (mkF m 15 #[.val (.ref o0), .val (.int p1), .val (.long q2), .second, .val (.int p3), .val (.long q4), .second, .unset] [(.ref o0), (.int (8 : Int32))])) rfl rfl (hb hby d3_15)
  have K11 : Steps p.tables e below _ (T10.setTop (mkF m 18 #[.val (.ref o0), .val (.int p1), .val (.long q2), .second, .val (.int p3), .val (.long q4), .second, .unset] [(.int n), (.int (8 : Int32))])) := K9.trans (st10 _ (Steps.refl _))
  have K12 : Steps p.tables e below _ (T10.setTop (mkF m 20 #[.val (.ref o0), .val (.int p1), .val (.long q2), .second, .val (.int p3), .val (.long q4), .second, .unset] [(.int (n * (2 : Int32))), (.int (8 : Int32))])) := K11.trans (by
    show Steps p.tables e below (T10.setTop (mkF m 18 #[.val (.ref o0), .val (.int p1), .val (.long q2), .second, .val (.int p3), .val (.long q4), .second, .unset] [(.int n), (.int (8 : Int32))])) _
    refine XS.iconst X10.here hx rfl (hb hby d3_18) ?_
    show Steps p.tables e below (T10.setTop (mkF m 19 #[.val (.ref o0), .val (.int p1), .val (.long q2), .second, .val (.int p3), .val (.long q4), .second, .unset] [(.int (2 : Int32)), (.int n), (.int (8 : Int32))])) _
    refine XS.imul X10.here hx rfl (hb hby d3_19) rfl ?_
    show Steps p.tables e below (T10.setTop (mkF m 20 #[.val (.ref o0), .val (.int p1), .val (.long q2), .second, .val (.int p3), .val (.long q4), .second, .unset] [(.int (n * (2 : Int32))), (.int (8 : Int32))])) _
    exact Steps.refl _)
  obtain ⟨_, _, ⟨T13, L13, k13, n13⟩, -, X13, ⟨Lc13, hQ13, l13, y13, z13⟩, st13⟩ := Jvm.LawKit.callS X10 hx (y := (⟨"java/lang/Math", "max", "(II)I"⟩ : MethodName)) hown (mvT hZ (hw _ (List.mem_of_getElem? (i := 24) rfl))) (mvT hZ (hw _ (List.mem_of_getElem? (i := 25) rfl))) (mvT hZ (hw _ (List.mem_of_getElem? (i := 26) rfl))) (mvT hZ (hw _ (List.mem_of_getElem? (i := 27) rfl))) (by decide) (backOf (W := 0) (rm4 l Z a0 hw [] (8 : Int32) (n * (2 : Int32)) h0 n0 Z0 ) hZ (hw _ (List.mem_of_getElem? (i := 27) rfl)) (hw _ (List.mem_of_getElem? (i := 26) rfl)) (by decide) (by decide)) (g := (mkF m 20 #[.val (.ref o0), .val (.int p1), .val (.long q2), .second, .val (.int p3), .val (.long q4), .second, .unset] [(.int (n * (2 : Int32))), (.int (8 : Int32))])) rfl (by rw [hml]; rfl) (argsL := [(.int (8 : Int32)), (.int (n * (2 : Int32)))]) (rest := []) (lenOf pd_0 rfl) rfl (by show 2 * 0 + _ ≤ _; exact Nat.le_of_eq rfl) (hb hby d3_20) (fun _ _ => ⟨rfl, e10, (by decide : 0 + 0 ≤ _), (by decide : 0 + 0 ≤ _)⟩)
  dsimp only [Pt.U, Pt.locs, Pt.cells, Pt.slots] at X13 l13 y13 z13 st13 hQ13
  subst l13 y13 z13
  obtain ⟨rfl, N13, eh13⟩ := hQ13
  have N13' := Fr.app N0 N13
  have K14 : Steps p.tables e below _ (T13.setTop (mkF m 23 #[.val (.ref o0), .val (.int p1), .val (.long q2), .second, .val (.int p3), .val (.long q4), .second, .unset] [(.int (if (8 : Int32) < (n * (2 : Int32)) then (n * (2 : Int32)) else (8 : Int32)))])) := K12.trans (st13 _ (Steps.refl _))
  rw [show (if (8 : Int32) < (n * (2 : Int32)) then (n * (2 : Int32)) else (8 : Int32)) = (8 : Int32) from hm] at K14
  have K15 : Steps p.tables e below _ (T13.setTop (mkF m 27 #[.val (.ref o0), .val (.int p1), .val (.long q2), .second, .val (.int p3), .val (.long q4), .second, .val (.int (8 : Int32))] [(.ref o0), (.ref o0)])) := K14.trans (by
    show Steps p.tables e below (T13.setTop (mkF m 23 #[.val (.ref o0), .val (.int p1), .val (.long q2), .second, .val (.int p3), .val (.long q4), .second, .unset] [(.int (8 : Int32))])) _
    refine XS.istore X13.here hx rfl (hb hby d3_23) rfl (l' := #[.val (.ref o0), .val (.int p1), .val (.long q2), .second, .val (.int p3), .val (.long q4), .second, .val (.int (8 : Int32))]) rfl ?_
    show Steps p.tables e below (T13.setTop (mkF m 25 #[.val (.ref o0), .val (.int p1), .val (.long q2), .second, .val (.int p3), .val (.long q4), .second, .val (.int (8 : Int32))] [])) _
    refine XS.aloadN X13.here hx rfl (hb hby d3_25) rfl rfl ?_
    show Steps p.tables e below (T13.setTop (mkF m 26 #[.val (.ref o0), .val (.int p1), .val (.long q2), .second, .val (.int p3), .val (.long q4), .second, .val (.int (8 : Int32))] [(.ref o0)])) _
    refine XS.aloadN X13.here hx rfl (hb hby d3_26) rfl rfl ?_
    show Steps p.tables e below (T13.setTop (mkF m 27 #[.val (.ref o0), .val (.int p1), .val (.long q2), .second, .val (.int p3), .val (.long q4), .second, .val (.int (8 : Int32))] [(.ref o0), (.ref o0)])) _
    exact Steps.refl _)
  obtain ⟨T16, X16, e16, st16⟩ := getF X13 hx hZ hown (host := "") (Or.inl (hw _ (List.mem_of_getElem? (i := 10) rfl))) Via.refl eh13 F_froms_o0 (g := (mkF m 27 #[.val (.ref o0), .val (.int p1), .val (.long q2), .second, .val (.int p3), .val (.long q4), .second, .val (.int (8 : Int32))] [(.ref o0), (.ref o0)])) rfl rfl (hb hby d3_27)
  have K17 : Steps p.tables e below _ (T16.setTop (mkF m 30 #[.val (.ref o0), .val (.int p1), .val (.long q2), .second, .val (.int p3), .val (.long q4), .second, .val (.int (8 : Int32))] [(.ref fa), (.ref o0)])) := K15.trans (st16 _ (Steps.refl _))
  have K18 : Steps p.tables e below _ (T16.setTop (mkF m 32 #[.val (.ref o0), .val (.int p1), .val (.long q2), .second, .val (.int p3), .val (.long q4), .second, .val (.int (8 : Int32))] [(.int (8 : Int32)), (.ref fa), (.ref o0)])) := K17.trans (by
    show Steps p.tables e below (T16.setTop (mkF m 30 #[.val (.ref o0), .val (.int p1), .val (.long q2), .second, .val (.int p3), .val (.long q4), .second, .val (.int (8 : Int32))] [(.ref fa), (.ref o0)])) _
    refine XS.iload X16.here hx rfl (hb hby d3_30) rfl ?_
    show Steps p.tables e below (T16.setTop (mkF m 32 #[.val (.ref o0), .val (.int p1), .val (.long q2), .second, .val (.int p3), .val (.long q4), .second, .val (.int (8 : Int32))] [(.int (8 : Int32)), (.ref fa), (.ref o0)])) _
    exact Steps.refl _)
  obtain ⟨_, _, ⟨T19, L19, k19, n19⟩, -, X19, ⟨Lc19, hQ19, l19, y19, z19⟩, st19⟩ := Jvm.LawKit.callS X16 hx (y := (⟨"java/util/Arrays", "copyOf", "([JI)[J"⟩ : MethodName)) hown (mvT hZ (hw _ (List.mem_of_getElem? (i := 28) rfl))) (mvT hZ (hw _ (List.mem_of_getElem? (i := 29) rfl))) (mvT hZ (hw _ (List.mem_of_getElem? (i := 30) rfl))) (mvT hZ (hw _ (List.mem_of_getElem? (i := 31) rfl))) (by decide) (backOf (W := 1) (rm5 l Z a0 hw [] fa kf z vf h0 n0 Z0 V_fa (⟨hq, hz8⟩) (hzn)) hZ (hw _ (List.mem_of_getElem? (i := 31) rfl)) (hw _ (List.mem_of_getElem? (i := 30) rfl)) (by decide) (by decide)) (g := (mkF m 32 #[.val (.ref o0), .val (.int p1), .val (.long q2), .second, .val (.int p3), .val (.long q4), .second, .val (.int (8 : Int32))] [(.int (8 : Int32)), (.ref fa), (.ref o0)])) rfl (by rw [hml]; rfl) (argsL := [(.ref fa), (.int (8 : Int32))]) (rest := [(.ref o0)]) (lenOf pd_2 rfl) rfl (by show 2 * 0 + _ ≤ _; exact Nat.le_of_eq rfl) (hb hby d3_32) (fun _ _ => ⟨rfl, e16, (by decide : 0 + 1 ≤ _), (by decide : 0 + 8 ≤ _)⟩)
  dsimp only [Pt.U, Pt.locs, Pt.cells, Pt.slots] at X19 l19 y19 z19 st19 hQ19
  subst l19 y19 z19
  obtain ⟨b19_b4, k4_19, rfl, N19, Kp19, Q19_0, Q19_1, sz19_b4⟩ := hQ19
  have ne_o0_b19_b4 : o0 ≠ b19_b4 := Nat.ne_of_lt (Nat.lt_of_lt_of_le E_o0.lt sz19_b4)
  have ne_fa_b19_b4 : fa ≠ b19_b4 := Nat.ne_of_lt (Nat.lt_of_lt_of_le V_fa.lt sz19_b4)
  have ne_ta_b19_b4 : ta ≠ b19_b4 := Nat.ne_of_lt (Nat.lt_of_lt_of_le V_ta.lt sz19_b4)
  have ne_ea_b19_b4 : ea ≠ b19_b4 := Nat.ne_of_lt (Nat.lt_of_lt_of_le V_ea.lt sz19_b4)
  have ge_b19_b4 : n0 ≤ b19_b4 := Nat.le_trans Z0 sz19_b4
  have sz_b19_b4 : h0.size ≤ b19_b4 := Nat.le_trans Kp0.1 sz19_b4
  have N19' := Fr.app N13' N19
  have K20 : Steps p.tables e below _ (T19.setTop (mkF m 35 #[.val (.ref o0), .val (.int p1), .val (.long q2), .second, .val (.int p3), .val (.long q4), .second, .val (.int (8 : Int32))] [(.ref b19_b4), (.ref o0)])) := K18.trans (st19 _ (Steps.refl _))
  have E_21 : Exa Z T19.heap o0 "com/example/spanfold/spanfold/RangeList" := (E_o0.keep Kp19)
  have F_22 : Fld Z T19.heap o0 "com/example/spanfold/spanfold/RangeList" "froms" "[J" (.ref fa) := (F_froms_o0.keep Kp19 nin0)
  obtain ⟨T23, h23, X23, e23, W23, st23⟩ := putF X19 hx hZ hown (host := "") (Or.inl (hw _ (List.mem_of_getElem? (i := 10) rfl))) Via.refl rfl F_22 E_21 (Or.inl (hw _ (List.mem_of_getElem? (i := 11) rfl))) (hw _ (List.mem_of_getElem? (i := 1) rfl)) (ty := (.array .long)) (by decide) rfl rfl (g := (mkF m 35 #[.val (.ref o0), .val (.int p1), .val (.long q2), .second, .val (.int p3), .val (.long q4), .second, .val (.int (8 : Int32))] [(.ref b19_b4), (.ref o0)])) rfl rfl (hb hby d3_35)
  have K24 : Steps p.tables e below _ (T23.setTop (mkF m 38 #[.val (.ref o0), .val (.int p1), .val (.long q2), .second, .val (.int p3), .val (.long q4), .second, .val (.int (8 : Int32))] [])) := K20.trans (st23 _ (Steps.refl _))
  have Fw23 : Fld Z h23 o0 "com/example/spanfold/spanfold/RangeList" "froms" "[J" (.ref b19_b4) := F_22.same W23
  have N23 := Fr.snoc X23 N19' g_o0
  have K25 : Steps p.tables e below _ (T23.setTop (mkF m 40 #[.val (.ref o0), .val (.int p1), .val (.long q2), .second, .val (.int p3), .val (.long q4), .second, .val (.int (8 : Int32))] [(.ref o0), (.ref o0)])) := K24.trans (by
    show Steps p.tables e below (T23.setTop (mkF m 38 #[.val (.ref o0), .val (.int p1), .val (.long q2), .second, .val (.int p3), .val (.long q4), .second, .val (.int (8 : Int32))] [])) _
    refine XS.aloadN X23.here hx rfl (hb hby d3_38) rfl rfl ?_
    show Steps p.tables e below (T23.setTop (mkF m 39 #[.val (.ref o0), .val (.int p1), .val (.long q2), .second, .val (.int p3), .val (.long q4), .second, .val (.int (8 : Int32))] [(.ref o0)])) _
    refine XS.aloadN X23.here hx rfl (hb hby d3_39) rfl rfl ?_
    show Steps p.tables e below (T23.setTop (mkF m 40 #[.val (.ref o0), .val (.int p1), .val (.long q2), .second, .val (.int p3), .val (.long q4), .second, .val (.int (8 : Int32))] [(.ref o0), (.ref o0)])) _
    exact Steps.refl _)
  have F_26 : Fld Z h23 o0 "com/example/spanfold/spanfold/RangeList" "tos" "[J" (.ref ta) := ((F_tos_o0.keep Kp19 nin0).other W23 (Or.inr (slot_ne (Or.inl (hw _ (List.mem_of_getElem? (i := 13) rfl))) (Or.inl (hw _ (List.mem_of_getElem? (i := 11) rfl))) (by decide) (t := (.array .long)) (t' := (.array .long)) (by decide) (by decide))))
  obtain ⟨T27, X27, e27, st27⟩ := getF X23 hx hZ hown (host := "") (Or.inl (hw _ (List.mem_of_getElem? (i := 12) rfl))) Via.refl e23 F_26 (g := (mkF m 40 #[.val (.ref o0), .val (.int p1), .val (.long q2), .second, .val (.int p3), .val (.long q4), .second, .val (.int (8 : Int32))] [(.ref o0), (.ref o0)])) rfl rfl (hb hby d3_40)
  have K28 : Steps p.tables e below _ (T27.setTop (mkF m 43 #[.val (.ref o0), .val (.int p1), .val (.long q2), .second, .val (.int p3), .val (.long q4), .second, .val (.int (8 : Int32))] [(.ref ta), (.ref o0)])) := K25.trans (st27 _ (Steps.refl _))
  have K29 : Steps p.tables e below _ (T27.setTop (mkF m 45 #[.val (.ref o0), .val (.int p1), .val (.long q2), .second, .val (.int p3), .val (.long q4), .second, .val (.int (8 : Int32))] [(.int (8 : Int32)), (.ref ta), (.ref o0)])) := K28.trans (by
    show Steps p.tables e below (T27.setTop (mkF m 43 #[.val (.ref o0), .val (.int p1), .val (.long q2), .second, .val (.int p3), .val (.long q4), .second, .val (.int (8 : Int32))] [(.ref ta), (.ref o0)])) _
    refine XS.iload X27.here hx rfl (hb hby d3_43) rfl ?_
    show Steps p.tables e below (T27.setTop (mkF m 45 #[.val (.ref o0), .val (.int p1), .val (.long q2), .second, .val (.int p3), .val (.long q4), .second, .val (.int (8 : Int32))] [(.int (8 : Int32)), (.ref ta), (.ref o0)])) _
    exact Steps.refl _)
  have Z_30 : n0 ≤ h23.size := (Nat.le_trans (Nat.le_trans Z0 Kp19.1) (Keep.of_wr W23).1)
  have V_31 : Arv Z h23 ta kt .long z vt (.long (0 : Int64)) := ((V_ta.keep Kp19 nin0).other W23 (Ne.symm ne_o0_ta))
  obtain ⟨_, _, ⟨T32, L32, k32, n32⟩, -, X32, ⟨Lc32, hQ32, l32, y32, z32⟩, st32⟩ := Jvm.LawKit.callS X27 hx (y := (⟨"java/util/Arrays", "copyOf", "([JI)[J"⟩ : MethodName)) hown (mvT hZ (hw _ (List.mem_of_getElem? (i := 28) rfl))) (mvT hZ (hw _ (List.mem_of_getElem? (i := 29) rfl))) (mvT hZ (hw _ (List.mem_of_getElem? (i := 30) rfl))) (mvT hZ (hw _ (List.mem_of_getElem? (i := 31) rfl))) (by decide) (backOf (W := 1) (rm5 l Z a0 hw [] ta kt z vt h23 n0 Z_30 V_31 (⟨hq, hz8⟩) (hzn)) hZ (hw _ (List.mem_of_getElem? (i := 31) rfl)) (hw _ (List.mem_of_getElem? (i := 30) rfl)) (by decide) (by decide)) (g := (mkF m 45 #[.val (.ref o0), .val (.int p1), .val (.long q2), .second, .val (.int p3), .val (.long q4), .second, .val (.int (8 : Int32))] [(.int (8 : Int32)), (.ref ta), (.ref o0)])) rfl (by rw [hml]; rfl) (argsL := [(.ref ta), (.int (8 : Int32))]) (rest := [(.ref o0)]) (lenOf pd_2 rfl) rfl (by show 2 * 0 + _ ≤ _; exact Nat.le_of_eq rfl) (hb hby d3_45) (fun _ _ => ⟨rfl, e27, (by decide : 1 + 1 ≤ _), (by decide : 8 + 8 ≤ _)⟩)
  dsimp only [Pt.U, Pt.locs, Pt.cells, Pt.slots] at X32 l32 y32 z32 st32 hQ32
  subst l32 y32 z32
  obtain ⟨b32_b4, k4_32, rfl, N32, Kp32, Q32_0, Q32_1, sz32_b4⟩ := hQ32
  have E_33 : Exa Z h23 o0 "com/example/spanfold/spanfold/RangeList" := (E_21.wr W23)
  have ne_o0_b32_b4 : o0 ≠ b32_b4 := Nat.ne_of_lt (Nat.lt_of_lt_of_le E_33.lt sz32_b4)
  have V_34 : Arv Z h23 fa kf .long z vf (.long (0 : Int64)) := ((V_fa.keep Kp19 nin0).other W23 (Ne.symm ne_o0_fa))
  have ne_fa_b32_b4 : fa ≠ b32_b4 := Nat.ne_of_lt (Nat.lt_of_lt_of_le V_34.lt sz32_b4)
  have ne_ta_b32_b4 : ta ≠ b32_b4 := Nat.ne_of_lt (Nat.lt_of_lt_of_le V_31.lt sz32_b4)
  have V_35 : Arv Z h23 ea ke .byte z ve (.int (0 : Int32)) := ((V_ea.keep Kp19 nin0).other W23 (Ne.symm ne_o0_ea))
  have ne_ea_b32_b4 : ea ≠ b32_b4 := Nat.ne_of_lt (Nat.lt_of_lt_of_le V_35.lt sz32_b4)
  have E_36 : Exa Z h23 b19_b4 "[J" := (Q19_0.wr W23)
  have ne_b19_b4_b32_b4 : b19_b4 ≠ b32_b4 := Nat.ne_of_lt (Nat.lt_of_lt_of_le E_36.lt sz32_b4)
  have ge_b32_b4 : n0 ≤ b32_b4 := Nat.le_trans Z_30 sz32_b4
  have K_37 : Keep h0 h23 [o0] := ((Kp0.trans Kp19 all0).wr W23 (Or.inl (List.mem_of_getElem? (i := 0) rfl)))
  have sz_b32_b4 : h0.size ≤ b32_b4 := Nat.le_trans K_37.1 sz32_b4
  have N32' := Fr.app N23 N32
  have K38 : Steps p.tables e below _ (T32.setTop (mkF m 48 #[.val (.ref o0), .val (.int p1), .val (.long q2), .second, .val (.int p3), .val (.long q4), .second, .val (.int (8 : Int32))] [(.ref b32_b4), (.ref o0)])) := K29.trans (st32 _ (Steps.refl _))
  have E_39 : Exa Z T32.heap o0 "com/example/spanfold/spanfold/RangeList" := (E_33.keep Kp32)
  have F_40 : Fld Z T32.heap o0 "com/example/spanfold/spanfold/RangeList" "tos" "[J" (.ref ta) := (F_26.keep Kp32 nin0)
  obtain ⟨T41, h41, X41, e41, W41, st41⟩ := putF X32 hx hZ hown (host := "") (Or.inl (hw _ (List.mem_of_getElem? (i := 12) rfl))) Via.refl rfl F_40 E_39 (Or.inl (hw _ (List.mem_of_getElem? (i := 13) rfl))) (hw _ (List.mem_of_getElem? (i := 1) rfl)) (ty := (.array .long)) (by decide) rfl rfl (g := (mkF m 48 #[.val (.ref o0), .val (.int p1), .val (.long q2), .second, .val (.int p3), .val (.long q4), .second, .val (.int (8 : Int32))] [(.ref b32_b4), (.ref o0)])) rfl rfl (hb hby d3_48)
  have K42 : Steps p.tables e below _ (T41.setTop (mkF m 51 #[.val (.ref o0), .val (.int p1), .val (.long q2), .second, .val (.int p3), .val (.long q4), .second, .val (.int (8 : Int32))] [])) := K38.trans (st41 _ (Steps.refl _))
  have Fw41 : Fld Z h41 o0 "com/example/spanfold/spanfold/RangeList" "tos" "[J" (.ref b32_b4) := F_40.same W41
  have N41 := Fr.snoc X41 N32' g_o0
  have K43 : Steps p.tables e below _ (T41.setTop (mkF m 53 #[.val (.ref o0), .val (.int p1), .val (.long q2), .second, .val (.int p3), .val (.long q4), .second, .val (.int (8 : Int32))] [(.ref o0), (.ref o0)])) := K42.trans (by
    show Steps p.tables e below (T41.setTop (mkF m 51 #[.val (.ref o0), .val (.int p1), .val (.long q2), .second, .val (.int p3), .val (.long q4), .second, .val (.int (8 : Int32))] [])) _
    refine XS.aloadN X41.here hx rfl (hb hby d3_51) rfl rfl ?_
    show Steps p.tables e below (T41.setTop (mkF m 52 #[.val (.ref o0), .val (.int p1), .val (.long q2), .second, .val (.int p3), .val (.long q4), .second, .val (.int (8 : Int32))] [(.ref o0)])) _
    refine XS.aloadN X41.here hx rfl (hb hby d3_52) rfl rfl ?_
    show Steps p.tables e below (T41.setTop (mkF m 53 #[.val (.ref o0), .val (.int p1), .val (.long q2), .second, .val (.int p3), .val (.long q4), .second, .val (.int (8 : Int32))] [(.ref o0), (.ref o0)])) _
    exact Steps.refl _)
  have F_44 : Fld Z h41 o0 "com/example/spanfold/spanfold/RangeList" "ends" "[B" (.ref ea) := ((((F_ends_o0.keep Kp19 nin0).other W23 (Or.inr (slot_ne (Or.inl (hw _ (List.mem_of_getElem? (i := 16) rfl))) (Or.inl (hw _ (List.mem_of_getElem? (i := 11) rfl))) (by decide) (t := (.array .byte)) (t' := (.array .long)) (by decide) (by decide)))).keep Kp32 nin0).other W41 (Or.inr (slot_ne (Or.inl (hw _ (List.mem_of_getElem? (i := 16) rfl))) (Or.inl (hw _ (List.mem_of_getElem? (i := 13) rfl))) (by decide) (t := (.array .byte)) (t' := (.array .long)) (by decide) (by decide))))
  obtain ⟨T45, X45, e45, st45⟩ := getF X41 hx hZ hown (host := "") (Or.inl (hw _ (List.mem_of_getElem? (i := 15) rfl))) Via.refl e41 F_44 (g := (mkF m 53 #[.val (.ref o0), .val (.int p1), .val (.long q2), .second, .val (.int p3), .val (.long q4), .second, .val (.int (8 : Int32))] [(.ref o0), (.ref o0)])) rfl rfl (hb hby d3_53)
  have K46 : Steps p.tables e below _ (T45.setTop (mkF m 56 #[.val (.ref o0), .val (.int p1), .val (.long q2), .second, .val (.int p3), .val (.long q4), .second, .val (.int (8 : Int32))] [(.ref ea), (.ref o0)])) := K43.trans (st45 _ (Steps.refl _))
  have K47 : Steps p.tables e below _ (T45.setTop (mkF m 58 #[.val (.ref o0), .val (.int p1), .val (.long q2), .second, .val (.int p3), .val (.long q4), .second, .val (.int (8 : Int32))] [(.int (8 : Int32)), (.ref ea), (.ref o0)])) := K46.trans (by
    show Steps p.tables e below (T45.setTop (mkF m 56 #[.val (.ref o0), .val (.int p1), .val (.long q2), .second, .val (.int p3), .val (.long q4), .second, .val (.int (8 : Int32))] [(.ref ea), (.ref o0)])) _
    refine XS.iload X45.here hx rfl (hb hby d3_56) rfl ?_
    show Steps p.tables e below (T45.setTop (mkF m 58 #[.val (.ref o0), .val (.int p1), .val (.long q2), .second, .val (.int p3), .val (.long q4), .second, .val (.int (8 : Int32))] [(.int (8 : Int32)), (.ref ea), (.ref o0)])) _
    exact Steps.refl _)
  have Z_48 : n0 ≤ h41.size := (Nat.le_trans (Nat.le_trans Z_30 Kp32.1) (Keep.of_wr W41).1)
  have V_49 : Arv Z h41 ea ke .byte z ve (.int (0 : Int32)) := ((V_35.keep Kp32 nin0).other W41 (Ne.symm ne_o0_ea))
  obtain ⟨_, _, ⟨T50, L50, k50, n50⟩, -, X50, ⟨Lc50, hQ50, l50, y50, z50⟩, st50⟩ := Jvm.LawKit.callS X45 hx (y := (⟨"java/util/Arrays", "copyOf", "([BI)[B"⟩ : MethodName)) hown (mvT hZ (hw _ (List.mem_of_getElem? (i := 39) rfl))) (mvT hZ (hw _ (List.mem_of_getElem? (i := 40) rfl))) (mvT hZ (hw _ (List.mem_of_getElem? (i := 30) rfl))) (mvT hZ (hw _ (List.mem_of_getElem? (i := 41) rfl))) (by decide) (backOf (W := 1) (rm7 l Z a0 hw [] ea ke z ve h41 n0 Z_48 V_49 (⟨hq, hz8⟩) (hzn)) hZ (hw _ (List.mem_of_getElem? (i := 41) rfl)) (hw _ (List.mem_of_getElem? (i := 30) rfl)) (by decide) (by decide)) (g := (mkF m 58 #[.val (.ref o0), .val (.int p1), .val (.long q2), .second, .val (.int p3), .val (.long q4), .second, .val (.int (8 : Int32))] [(.int (8 : Int32)), (.ref ea), (.ref o0)])) rfl (by rw [hml]; rfl) (argsL := [(.ref ea), (.int (8 : Int32))]) (rest := [(.ref o0)]) (lenOf pd_3 rfl) rfl (by show 2 * 0 + _ ≤ _; exact Nat.le_of_eq rfl) (hb hby d3_58) (fun _ _ => ⟨rfl, e45, (by decide : 2 + 1 ≤ _), (by decide : 16 + 8 ≤ _)⟩)
  dsimp only [Pt.U, Pt.locs, Pt.cells, Pt.slots] at X50 l50 y50 z50 st50 hQ50
  subst l50 y50 z50
  obtain ⟨b50_b4, k4_50, rfl, N50, Kp50, Q50_0, Q50_1, sz50_b4⟩ := hQ50
  have E_51 : Exa Z h41 o0 "com/example/spanfold/spanfold/RangeList" := (E_39.wr W41)
  have ne_o0_b50_b4 : o0 ≠ b50_b4 := Nat.ne_of_lt (Nat.lt_of_lt_of_le E_51.lt sz50_b4)
  have V_52 : Arv Z h41 fa kf .long z vf (.long (0 : Int64)) := ((V_34.keep Kp32 nin0).other W41 (Ne.symm ne_o0_fa))
  have ne_fa_b50_b4 : fa ≠ b50_b4 := Nat.ne_of_lt (Nat.lt_of_lt_of_le V_52.lt sz50_b4)
  have V_53 : Arv Z h41 ta kt .long z vt (.long (0 : Int64)) := ((V_31.keep Kp32 nin0).other W41 (Ne.symm ne_o0_ta))
  have ne_ta_b50_b4 : ta ≠ b50_b4 := Nat.ne_of_lt (Nat.lt_of_lt_of_le V_53.lt sz50_b4)
  have ne_ea_b50_b4 : ea ≠ b50_b4 := Nat.ne_of_lt (Nat.lt_of_lt_of_le V_49.lt sz50_b4)
  have E_54 : Exa Z h41 b19_b4 "[J" := ((E_36.keep Kp32).wr W41)
  have ne_b19_b4_b50_b4 : b19_b4 ≠ b50_b4 := Nat.ne_of_lt (Nat.lt_of_lt_of_le E_54.lt sz50_b4)
  have E_55 : Exa Z h41 b32_b4 "[J" := (Q32_0.wr W41)
  have ne_b32_b4_b50_b4 : b32_b4 ≠ b50_b4 := Nat.ne_of_lt (Nat.lt_of_lt_of_le E_55.lt sz50_b4)
  have ge_b50_b4 : n0 ≤ b50_b4 := Nat.le_trans Z_48 sz50_b4
  have K_56 : Keep h0 h41 [o0] := ((K_37.trans Kp32 all0).wr W41 (Or.inl (List.mem_of_getElem? (i := 0) rfl)))
  have sz_b50_b4 : h0.size ≤ b50_b4 := Nat.le_trans K_56.1 sz50_b4
  have N50' := Fr.app N41 N50
  have K57 : Steps p.tables e below _ (T50.setTop (mkF m 61 #[.val (.ref o0), .val (.int p1), .val (.long q2), .second, .val (.int p3), .val (.long q4), .second, .val (.int (8 : Int32))] [(.ref b50_b4), (.ref o0)])) := K47.trans (st50 _ (Steps.refl _))
  have E_58 : Exa Z T50.heap o0 "com/example/spanfold/spanfold/RangeList" := (E_51.keep Kp50)
  have F_59 : Fld Z T50.heap o0 "com/example/spanfold/spanfold/RangeList" "ends" "[B" (.ref ea) := (F_44.keep Kp50 nin0)
  obtain ⟨T60, h60, X60, e60, W60, st60⟩ := putF X50 hx hZ hown (host := "") (Or.inl (hw _ (List.mem_of_getElem? (i := 15) rfl))) Via.refl rfl F_59 E_58 (Or.inl (hw _ (List.mem_of_getElem? (i := 16) rfl))) (hw _ (List.mem_of_getElem? (i := 1) rfl)) (ty := (.array .byte)) (by decide) rfl rfl (g := (mkF m 61 #[.val (.ref o0), .val (.int p1), .val (.long q2), .second, .val (.int p3), .val (.long q4), .second, .val (.int (8 : Int32))] [(.ref b50_b4), (.ref o0)])) rfl rfl (hb hby d3_61)
  have K61 : Steps p.tables e below _ (T60.setTop (mkF m 64 #[.val (.ref o0), .val (.int p1), .val (.long q2), .second, .val (.int p3), .val (.long q4), .second, .val (.int (8 : Int32))] [])) := K57.trans (st60 _ (Steps.refl _))
  have Fw60 : Fld Z h60 o0 "com/example/spanfold/spanfold/RangeList" "ends" "[B" (.ref b50_b4) := F_59.same W60
  have N60 := Fr.snoc X60 N50' g_o0
  have K62 : Steps p.tables e below _ (T60.setTop (mkF m 65 #[.val (.ref o0), .val (.int p1), .val (.long q2), .second, .val (.int p3), .val (.long q4), .second, .val (.int (8 : Int32))] [(.ref o0)])) := K61.trans (by
    show Steps p.tables e below (T60.setTop (mkF m 64 #[.val (.ref o0), .val (.int p1), .val (.long q2), .second, .val (.int p3), .val (.long q4), .second, .val (.int (8 : Int32))] [])) _
    refine XS.aloadN X60.here hx rfl (hb hby d3_64) rfl rfl ?_
    show Steps p.tables e below (T60.setTop (mkF m 65 #[.val (.ref o0), .val (.int p1), .val (.long q2), .second, .val (.int p3), .val (.long q4), .second, .val (.int (8 : Int32))] [(.ref o0)])) _
    exact Steps.refl _)
  have F_63 : Fld Z h60 o0 "com/example/spanfold/spanfold/RangeList" "froms" "[J" (.ref b19_b4) := ((((Fw23.keep Kp32 nin0).other W41 (Or.inr (slot_ne (Or.inl (hw _ (List.mem_of_getElem? (i := 11) rfl))) (Or.inl (hw _ (List.mem_of_getElem? (i := 13) rfl))) (by decide) (t := (.array .long)) (t' := (.array .long)) (by decide) (by decide)))).keep Kp50 nin0).other W60 (Or.inr (slot_ne (Or.inl (hw _ (List.mem_of_getElem? (i := 11) rfl))) (Or.inl (hw _ (List.mem_of_getElem? (i := 16) rfl))) (by decide) (t := (.array .long)) (t' := (.array .byte)) (by decide) (by decide))))
  obtain ⟨T64, X64, e64, st64⟩ := getF X60 hx hZ hown (host := "") (Or.inl (hw _ (List.mem_of_getElem? (i := 10) rfl))) Via.refl e60 F_63 (g := (mkF m 65 #[.val (.ref o0), .val (.int p1), .val (.long q2), .second, .val (.int p3), .val (.long q4), .second, .val (.int (8 : Int32))] [(.ref o0)])) rfl rfl (hb hby d3_65)
  have K65 : Steps p.tables e below _ (T64.setTop (mkF m 68 #[.val (.ref o0), .val (.int p1), .val (.long q2), .second, .val (.int p3), .val (.long q4), .second, .val (.int (8 : Int32))] [(.ref b19_b4)])) := K62.trans (st64 _ (Steps.refl _))
  have K66 : Steps p.tables e below _ (T64.setTop (mkF m 69 #[.val (.ref o0), .val (.int p1), .val (.long q2), .second, .val (.int p3), .val (.long q4), .second, .val (.int (8 : Int32))] [(.ref o0), (.ref b19_b4)])) := K65.trans (by
    show Steps p.tables e below (T64.setTop (mkF m 68 #[.val (.ref o0), .val (.int p1), .val (.long q2), .second, .val (.int p3), .val (.long q4), .second, .val (.int (8 : Int32))] [(.ref b19_b4)])) _
    refine XS.aloadN X64.here hx rfl (hb hby d3_68) rfl rfl ?_
    show Steps p.tables e below (T64.setTop (mkF m 69 #[.val (.ref o0), .val (.int p1), .val (.long q2), .second, .val (.int p3), .val (.long q4), .second, .val (.int (8 : Int32))] [(.ref o0), (.ref b19_b4)])) _
    exact Steps.refl _)
  have F_67 : Fld Z h60 o0 "com/example/spanfold/spanfold/RangeList" "size" "I" (.int n) := ((((((F_size_o0.keep Kp19 nin0).other W23 (Or.inr (slot_ne (Or.inl (hw _ (List.mem_of_getElem? (i := 23) rfl))) (Or.inl (hw _ (List.mem_of_getElem? (i := 11) rfl))) (by decide) (t := .int) (t' := (.array .long)) (by decide) (by decide)))).keep Kp32 nin0).other W41 (Or.inr (slot_ne (Or.inl (hw _ (List.mem_of_getElem? (i := 23) rfl))) (Or.inl (hw _ (List.mem_of_getElem? (i := 13) rfl))) (by decide) (t := .int) (t' := (.array .long)) (by decide) (by decide)))).keep Kp50 nin0).other W60 (Or.inr (slot_ne (Or.inl (hw _ (List.mem_of_getElem? (i := 23) rfl))) (Or.inl (hw _ (List.mem_of_getElem? (i := 16) rfl))) (by decide) (t := .int) (t' := (.array .byte)) (by decide) (by decide))))
  obtain ⟨T68, X68, e68, st68⟩ := getF X64 hx hZ hown (host := "") (Or.inl (hw _ (List.mem_of_getElem? (i := 22) rfl))) Via.refl e64 F_67 (g := (mkF m 69 #[.val (.ref o0), .val (.int p1), .val (.long q2), .second, .val (.int p3), .val (.long q4), .second, .val (.int (8 : Int32))] [(.ref o0), (.ref b19_b4)])) rfl rfl (hb hby d3_69)
  have K69 : Steps p.tables e below _ (T68.setTop (mkF m 72 #[.val (.ref o0), .val (.int p1), .val (.long q2), .second, .val (.int p3), .val (.long q4), .second, .val (.int (8 : Int32))] [(.int n), (.ref b19_b4)])) := K66.trans (st68 _ (Steps.refl _))
  have K70 : Steps p.tables e below _ (T68.setTop (mkF m 73 #[.val (.ref o0), .val (.int p1), .val (.long q2), .second, .val (.int p3), .val (.long q4), .second, .val (.int (8 : Int32))] [(.int p1), (.int n), (.ref b19_b4)])) := K69.trans (by
    show Steps p.tables e below (T68.setTop (mkF m 72 #[.val (.ref o0), .val (.int p1), .val (.long q2), .second, .val (.int p3), .val (.long q4), .second, .val (.int (8 : Int32))] [(.int n), (.ref b19_b4)])) _
    refine XS.iloadN X68.here hx rfl (hb hby d3_72) rfl ?_
    show Steps p.tables e below (T68.setTop (mkF m 73 #[.val (.ref o0), .val (.int p1), .val (.long q2), .second, .val (.int p3), .val (.long q4), .second, .val (.int (8 : Int32))] [(.int p1), (.int n), (.ref b19_b4)])) _
    exact Steps.refl _)
  obtain ⟨v71_0, hv71_0, S71⟩ : ∃ (v71_0 : Int64), (if p1 = (0 : Int32) then (0 : Int64) else q2) = v71_0 ∧ Steps p.tables e below (T68.setTop (mkF m 73 #[.val (.ref o0), .val (.int p1), .val (.long q2), .second, .val (.int p3), .val (.long q4), .second, .val (.int (8 : Int32))] [(.int p1), (.int n), (.ref b19_b4)])) (T68.setTop (mkF m 81 #[.val (.ref o0), .val (.int p1), .val (.long q2), .second, .val (.int p3), .val (.long q4), .second, .val (.int (8 : Int32))] [(.long v71_0), (.int n), (.ref b19_b4)])) := by
    have R71 : Steps p.tables e below (T68.setTop (mkF m 73 #[.val (.ref o0), .val (.int p1), .val (.long q2), .second, .val (.int p3), .val (.long q4), .second, .val (.int (8 : Int32))] [(.int p1), (.int n), (.ref b19_b4)])) (T68.setTop (mkF m 73 #[.val (.ref o0), .val (.int p1), .val (.long q2), .second, .val (.int p3), .val (.long q4), .second, .val (.int (8 : Int32))] [(.int p1), (.int n), (.ref b19_b4)])) := Steps.refl _
    by_cases hc73 : p1 = (0 : Int32)
    · have K72 : Steps p.tables e below _ (T68.setTop (mkF m 81 #[.val (.ref o0), .val (.int p1), .val (.long q2), .second, .val (.int p3), .val (.long q4), .second, .val (.int (8 : Int32))] [(.long (0 : Int64)), (.int n), (.ref b19_b4)])) := R71.trans (by
        show Steps p.tables e below (T68.setTop (mkF m 73 #[.val (.ref o0), .val (.int p1), .val (.long q2), .second, .val (.int p3), .val (.long q4), .second, .val (.int (8 : Int32))] [(.int p1), (.int n), (.ref b19_b4)])) _
        refine XS.ifYes X68.here hx rfl (pc0 := 73) (pc' := 80) rfl (hb hby d3_73) rfl ((if0 _ _).trans (teq hc73).1) (by decide) (by decide) ?_
        show Steps p.tables e below (T68.setTop (mkF m 80 #[.val (.ref o0), .val (.int p1), .val (.long q2), .second, .val (.int p3), .val (.long q4), .second, .val (.int (8 : Int32))] [(.int n), (.ref b19_b4)])) _
        refine XS.lconst X68.here hx rfl (hb hby d3_80) ?_
        show Steps p.tables e below (T68.setTop (mkF m 81 #[.val (.ref o0), .val (.int p1), .val (.long q2), .second, .val (.int p3), .val (.long q4), .second, .val (.int (8 : Int32))] [(.long (0 : Int64)), (.int n), (.ref b19_b4)])) _
        exact Steps.refl _)
      exact ⟨(0 : Int64), (by rw [if_pos hc73]), K72⟩
    · have K73 : Steps p.tables e below _ (T68.setTop (mkF m 81 #[.val (.ref o0), .val (.int p1), .val (.long q2), .second, .val (.int p3), .val (.long q4), .second, .val (.int (8 : Int32))] [(.long q2), (.int n), (.ref b19_b4)])) := R71.trans (by
        show Steps p.tables e below (T68.setTop (mkF m 73 #[.val (.ref o0), .val (.int p1), .val (.long q2), .second, .val (.int p3), .val (.long q4), .second, .val (.int (8 : Int32))] [(.int p1), (.int n), (.ref b19_b4)])) _
        refine XS.ifNo X68.here hx rfl (hb hby d3_73) rfl ((if0 _ _).trans (feq hc73).1) ?_
        show Steps p.tables e below (T68.setTop (mkF m 76 #[.val (.ref o0), .val (.int p1), .val (.long q2), .second, .val (.int p3), .val (.long q4), .second, .val (.int (8 : Int32))] [(.int n), (.ref b19_b4)])) _
        refine XS.lloadN X68.here hx rfl (hb hby d3_76) rfl ?_
        show Steps p.tables e below (T68.setTop (mkF m 77 #[.val (.ref o0), .val (.int p1), .val (.long q2), .second, .val (.int p3), .val (.long q4), .second, .val (.int (8 : Int32))] [(.long q2), (.int n), (.ref b19_b4)])) _
        refine XS.goto X68.here hx rfl (pc0 := 77) (pc' := 81) rfl (hb hby d3_77) (by decide) (by decide) ?_
        show Steps p.tables e below (T68.setTop (mkF m 81 #[.val (.ref o0), .val (.int p1), .val (.long q2), .second, .val (.int p3), .val (.long q4), .second, .val (.int (8 : Int32))] [(.long q2), (.int n), (.ref b19_b4)])) _
        exact Steps.refl _)
      exact ⟨q2, (by rw [if_neg hc73]), K73⟩
  have K74 := K70.trans S71
  have V_75 : Arv Z h60 b19_b4 k4_19 .long (8 : Int32) (own_cp 8 z.toNatClampNeg vf (.long (0 : Int64))) (.long (0 : Int64)) := (((((Q19_1.other W23 (Ne.symm ne_o0_b19_b4)).keep Kp32 nin0).other W41 (Ne.symm ne_o0_b19_b4)).keep Kp50 nin0).other W60 (Ne.symm ne_o0_b19_b4))
  obtain ⟨T76, h76, X76, e76, W76, V76, st76⟩ := own_stJ X68 hx hZ e68 V_75 (j := n) hq8 i hi (by rw [own_cp_len _ _ _ _ hzn]; exact hlen) (g := (mkF m 81 #[.val (.ref o0), .val (.int p1), .val (.long q2), .second, .val (.int p3), .val (.long q4), .second, .val (.int (8 : Int32))] [(.long v71_0), (.int n), (.ref b19_b4)])) rfl rfl (hb hby d3_81)
  have K77 : Steps p.tables e below _ (T76.setTop (mkF m 82 #[.val (.ref o0), .val (.int p1), .val (.long q2), .second, .val (.int p3), .val (.long q4), .second, .val (.int (8 : Int32))] [])) := K74.trans st76
  have Vw76 : Arv Z h76 b19_b4 k4_19 .long (8 : Int32) ((own_cp 8 z.toNatClampNeg vf (.long (0 : Int64))).set i (.long v71_0)) (.long (0 : Int64)) := V76
  have N76 := Fr.snoc X76 N60 ge_b19_b4
  have K78 : Steps p.tables e below _ (T76.setTop (mkF m 83 #[.val (.ref o0), .val (.int p1), .val (.long q2), .second, .val (.int p3), .val (.long q4), .second, .val (.int (8 : Int32))] [(.ref o0)])) := K77.trans (by
    show Steps p.tables e below (T76.setTop (mkF m 82 #[.val (.ref o0), .val (.int p1), .val (.long q2), .second, .val (.int p3), .val (.long q4), .second, .val (.int (8 : Int32))] [])) _
    refine XS.aloadN X76.here hx rfl (hb hby d3_82) rfl rfl ?_
    show Steps p.tables e below (T76.setTop (mkF m 83 #[.val (.ref o0), .val (.int p1), .val (.long q2), .second, .val (.int p3), .val (.long q4), .second, .val (.int (8 : Int32))] [(.ref o0)])) _
    exact Steps.refl _)
  have F_79 : Fld Z h76 o0 "com/example/spanfold/spanfold/RangeList" "tos" "[J" (.ref b32_b4) := (((Fw41.keep Kp50 nin0).other W60 (Or.inr (slot_ne (Or.inl (hw _ (List.mem_of_getElem? (i := 13) rfl))) (Or.inl (hw _ (List.mem_of_getElem? (i := 16) rfl))) (by decide) (t := (.array .long)) (t' := (.array .byte)) (by decide) (by decide)))).other W76 (Or.inl ne_o0_b19_b4))
  obtain ⟨T80, X80, e80, st80⟩ := getF X76 hx hZ hown (host := "") (Or.inl (hw _ (List.mem_of_getElem? (i := 12) rfl))) Via.refl e76 F_79 (g := (mkF m 83 #[.val (.ref o0), .val (.int p1), .val (.long q2), .second, .val (.int p3), .val (.long q4), .second, .val (.int (8 : Int32))] [(.ref o0)])) rfl rfl (hb hby d3_83)
  have K81 : Steps p.tables e below _ (T80.setTop (mkF m 86 #[.val (.ref o0), .val (.int p1), .val (.long q2), .second, .val (.int p3), .val (.long q4), .second, .val (.int (8 : Int32))] [(.ref b32_b4)])) := K78.trans (st80 _ (Steps.refl _))
  have K82 : Steps p.tables e below _ (T80.setTop (mkF m 87 #[.val (.ref o0), .val (.int p1), .val (.long q2), .second, .val (.int p3), .val (.long q4), .second, .val (.int (8 : Int32))] [(.ref o0), (.ref b32_b4)])) := K81.trans (by
    show Steps p.tables e below (T80.setTop (mkF m 86 #[.val (.ref o0), .val (.int p1), .val (.long q2), .second, .val (.int p3), .val (.long q4), .second, .val (.int (8 : Int32))] [(.ref b32_b4)])) _
    refine XS.aloadN X80.here hx rfl (hb hby d3_86) rfl rfl ?_
    show Steps p.tables e below (T80.setTop (mkF m 87 #[.val (.ref o0), .val (.int p1), .val (.long q2), .second, .val (.int p3), .val (.long q4), .second, .val (.int (8 : Int32))] [(.ref o0), (.ref b32_b4)])) _
    exact Steps.refl _)
  have F_83 : Fld Z h76 o0 "com/example/spanfold/spanfold/RangeList" "size" "I" (.int n) := (F_67.other W76 (Or.inl ne_o0_b19_b4))
  obtain ⟨T84, X84, e84, st84⟩ := getF X80 hx hZ hown (host := "") (Or.inl (hw _ (List.mem_of_getElem? (i := 22) rfl))) Via.refl e80 F_83 (g := (mkF m 87 #[.val (.ref o0), .val (.int p1), .val (.long q2), .second, .val (.int p3), .val (.long q4), .second, .val (.int (8 : Int32))] [(.ref o0), (.ref b32_b4)])) rfl rfl (hb hby d3_87)
  have K85 : Steps p.tables e below _ (T84.setTop (mkF m 90 #[.val (.ref o0), .val (.int p1), .val (.long q2), .second, .val (.int p3), .val (.long q4), .second, .val (.int (8 : Int32))] [(.int n), (.ref b32_b4)])) := K82.trans (st84 _ (Steps.refl _))
  have K86 : Steps p.tables e below _ (T84.setTop (mkF m 92 #[.val (.ref o0), .val (.int p1), .val (.long q2), .second, .val (.int p3), .val (.long q4), .second, .val (.int (8 : Int32))] [(.int p3), (.int n), (.ref b32_b4)])) := K85.trans (by
    show Steps p.tables e below (T84.setTop (mkF m 90 #[.val (.ref o0), .val (.int p1), .val (.long q2), .second, .val (.int p3), .val (.long q4), .second, .val (.int (8 : Int32))] [(.int n), (.ref b32_b4)])) _
    refine XS.iload X84.here hx rfl (hb hby d3_90) rfl ?_
    show Steps p.tables e below (T84.setTop (mkF m 92 #[.val (.ref o0), .val (.int p1), .val (.long q2), .second, .val (.int p3), .val (.long q4), .second, .val (.int (8 : Int32))] [(.int p3), (.int n), (.ref b32_b4)])) _
    exact Steps.refl _)
  obtain ⟨v87_0, hv87_0, S87⟩ : ∃ (v87_0 : Int64), (if p3 = (0 : Int32) then (0 : Int64) else q4) = v87_0 ∧ Steps p.tables e below (T84.setTop (mkF m 92 #[.val (.ref o0), .val (.int p1), .val (.long q2), .second, .val (.int p3), .val (.long q4), .second, .val (.int (8 : Int32))] [(.int p3), (.int n), (.ref b32_b4)])) (T84.setTop (mkF m 101 #[.val (.ref o0), .val (.int p1), .val (.long q2), .second, .val (.int p3), .val (.long q4), .second, .val (.int (8 : Int32))] [(.long v87_0), (.int n), (.ref b32_b4)])) := by
    have R87 : Steps p.tables e below (T84.setTop (mkF m 92 #[.val (.ref o0), .val (.int p1), .val (.long q2), .second, .val (.int p3), .val (.long q4), .second, .val (.int (8 : Int32))] [(.int p3), (.int n), (.ref b32_b4)])) (T84.setTop (mkF m 92 #[.val (.ref o0), .val (.int p1), .val (.long q2), .second, .val (.int p3), .val (.long q4), .second, .val (.int (8 : Int32))] [(.int p3), (.int n), (.ref b32_b4)])) := Steps.refl _
    by_cases hc92 : p3 = (0 : Int32)
    · have K88 : Steps p.tables e below _ (T84.setTop (mkF m 101 #[.val (.ref o0), .val (.int p1), .val (.long q2), .second, .val (.int p3), .val (.long q4), .second, .val (.int (8 : Int32))] [(.long (0 : Int64)), (.int n), (.ref b32_b4)])) := R87.trans (by
        show Steps p.tables e below (T84.setTop (mkF m 92 #[.val (.ref o0), .val (.int p1), .val (.long q2), .second, .val (.int p3), .val (.long q4), .second, .val (.int (8 : Int32))] [(.int p3), (.int n), (.ref b32_b4)])) _
        refine XS.ifYes X84.here hx rfl (pc0 := 92) (pc' := 100) rfl (hb hby d3_92) rfl ((if0 _ _).trans (teq hc92).1) (by decide) (by decide) ?_
        show Steps p.tables e below (T84.setTop (mkF m 100 #[.val (.ref o0), .val (.int p1), .val (.long q2), .second, .val (.int p3), .val (.long q4), .second, .val (.int (8 : Int32))] [(.int n), (.ref b32_b4)])) _
        refine XS.lconst X84.here hx rfl (hb hby d3_100) ?_
        show Steps p.tables e below (T84.setTop (mkF m 101 #[.val (.ref o0), .val (.int p1), .val (.long q2), .second, .val (.int p3), .val (.long q4), .second, .val (.int (8 : Int32))] [(.long (0 : Int64)), (.int n), (.ref b32_b4)])) _
        exact Steps.refl _)
      exact ⟨(0 : Int64), (by rw [if_pos hc92]), K88⟩
    · have K89 : Steps p.tables e below _ (T84.setTop (mkF m 101 #[.val (.ref o0), .val (.int p1), .val (.long q2), .second, .val (.int p3), .val (.long q4), .second, .val (.int (8 : Int32))] [(.long q4), (.int n), (.ref b32_b4)])) := R87.trans (by
        show Steps p.tables e below (T84.setTop (mkF m 92 #[.val (.ref o0), .val (.int p1), .val (.long q2), .second, .val (.int p3), .val (.long q4), .second, .val (.int (8 : Int32))] [(.int p3), (.int n), (.ref b32_b4)])) _
        refine XS.ifNo X84.here hx rfl (hb hby d3_92) rfl ((if0 _ _).trans (feq hc92).1) ?_
        show Steps p.tables e below (T84.setTop (mkF m 95 #[.val (.ref o0), .val (.int p1), .val (.long q2), .second, .val (.int p3), .val (.long q4), .second, .val (.int (8 : Int32))] [(.int n), (.ref b32_b4)])) _
        refine XS.lload X84.here hx rfl (hb hby d3_95) rfl ?_
        show Steps p.tables e below (T84.setTop (mkF m 97 #[.val (.ref o0), .val (.int p1), .val (.long q2), .second, .val (.int p3), .val (.long q4), .second, .val (.int (8 : Int32))] [(.long q4), (.int n), (.ref b32_b4)])) _
        refine XS.goto X84.here hx rfl (pc0 := 97) (pc' := 101) rfl (hb hby d3_97) (by decide) (by decide) ?_
        show Steps p.tables e below (T84.setTop (mkF m 101 #[.val (.ref o0), .val (.int p1), .val (.long q2), .second, .val (.int p3), .val (.long q4), .second, .val (.int (8 : Int32))] [(.long q4), (.int n), (.ref b32_b4)])) _
        exact Steps.refl _)
      exact ⟨q4, (by rw [if_neg hc92]), K89⟩
  have K90 := K86.trans S87
  have V_91 : Arv Z h76 b32_b4 k4_32 .long (8 : Int32) (own_cp 8 z.toNatClampNeg vt (.long (0 : Int64))) (.long (0 : Int64)) := ((((Q32_1.other W41 (Ne.symm ne_o0_b32_b4)).keep Kp50 nin0).other W60 (Ne.symm ne_o0_b32_b4)).other W76 (Ne.symm ne_b19_b4_b32_b4))
  obtain ⟨T92, h92, X92, e92, W92, V92, st92⟩ := own_stJ X84 hx hZ e84 V_91 (j := n) hq8 i hi (by rw [own_cp_len _ _ _ _ hzn]; exact hlen) (g := (mkF m 101 #[.val (.ref o0), .val (.int p1), .val (.long q2), .second, .val (.int p3), .val (.long q4), .second, .val (.int (8 : Int32))] [(.long v87_0), (.int n), (.ref b32_b4)])) rfl rfl (hb hby d3_101)
  have K93 : Steps p.tables e below _ (T92.setTop (mkF m 102 #[.val (.ref o0), .val (.int p1), .val (.long q2), .second, .val (.int p3), .val (.long q4), .second, .val (.int (8 : Int32))] [])) := K90.trans st92
  have Vw92 : Arv Z h92 b32_b4 k4_32 .long (8 : Int32) ((own_cp 8 z.toNatClampNeg vt (.long (0 : Int64))).set i (.long v87_0)) (.long (0 : Int64)) := V92
  have N92 := Fr.snoc X92 N76 ge_b32_b4
  have K94 : Steps p.tables e below _ (T92.setTop (mkF m 103 #[.val (.ref o0), .val (.int p1), .val (.long q2), .second, .val (.int p3), .val (.long q4), .second, .val (.int (8 : Int32))] [(.ref o0)])) := K93.trans (by
    show Steps p.tables e below (T92.setTop (mkF m 102 #[.val (.ref o0), .val (.int p1), .val (.long q2), .second, .val (.int p3), .val (.long q4), .second, .val (.int (8 : Int32))] [])) _
    refine XS.aloadN X92.here hx rfl (hb hby d3_102) rfl rfl ?_
    show Steps p.tables e below (T92.setTop (mkF m 103 #[.val (.ref o0), .val (.int p1), .val (.long q2), .second, .val (.int p3), .val (.long q4), .second, .val (.int (8 : Int32))] [(.ref o0)])) _
    exact Steps.refl _)
  have F_95 : Fld Z h92 o0 "com/example/spanfold/spanfold/RangeList" "ends" "[B" (.ref b50_b4) := ((Fw60.other W76 (Or.inl ne_o0_b19_b4)).other W92 (Or.inl ne_o0_b32_b4))
  obtain ⟨T96, X96, e96, st96⟩ := getF X92 hx hZ hown (host := "") (Or.inl (hw _ (List.mem_of_getElem? (i := 15) rfl))) Via.refl e92 F_95 (g := (mkF m 103 #[.val (.ref o0), .val (.int p1), .val (.long q2), .second, .val (.int p3), .val (.long q4), .second, .val (.int (8 : Int32))] [(.ref o0)])) rfl rfl (hb hby d3_103)
  have K97 : Steps p.tables e below _ (T96.setTop (mkF m 106 #[.val (.ref o0), .val (.int p1), .val (.long q2), .second, .val (.int p3), .val (.long q4), .second, .val (.int (8 : Int32))] [(.ref b50_b4)])) := K94.trans (st96 _ (Steps.refl _))
  have K98 : Steps p.tables e below _ (T96.setTop (mkF m 107 #[.val (.ref o0), .val (.int p1), .val (.long q2), .second, .val (.int p3), .val (.long q4), .second, .val (.int (8 : Int32))] [(.ref o0), (.ref b50_b4)])) := K97.trans (by
    show Steps p.tables e below (T96.setTop (mkF m 106 #[.val (.ref o0), .val (.int p1), .val (.long q2), .second, .val (.int p3), .val (.long q4), .second, .val (.int (8 : Int32))] [(.ref b50_b4)])) _
    refine XS.aloadN X96.here hx rfl (hb hby d3_106) rfl rfl ?_
    show Steps p.tables e below (T96.setTop (mkF m 107 #[.val (.ref o0), .val (.int p1), .val (.long q2), .second, .val (.int p3), .val (.long q4), .second, .val (.int (8 : Int32))] [(.ref o0), (.ref b50_b4)])) _
    exact Steps.refl _)
  have F_99 : Fld Z h92 o0 "com/example/spanfold/spanfold/RangeList" "size" "I" (.int n) := (F_83.other W92 (Or.inl ne_o0_b32_b4))
  obtain ⟨T100, X100, e100, st100⟩ := getF X96 hx hZ hown (host := "") (Or.inl (hw _ (List.mem_of_getElem? (i := 22) rfl))) Via.refl e96 F_99 (g := (mkF m 107 #[.val (.ref o0), .val (.int p1), .val (.long q2), .second, .val (.int p3), .val (.long q4), .second, .val (.int (8 : Int32))] [(.ref o0), (.ref b50_b4)])) rfl rfl (hb hby d3_107)
  have K101 : Steps p.tables e below _ (T100.setTop (mkF m 110 #[.val (.ref o0), .val (.int p1), .val (.long q2), .second, .val (.int p3), .val (.long q4), .second, .val (.int (8 : Int32))] [(.int n), (.ref b50_b4)])) := K98.trans (st100 _ (Steps.refl _))
  have K102 : Steps p.tables e below _ (T100.setTop (mkF m 111 #[.val (.ref o0), .val (.int p1), .val (.long q2), .second, .val (.int p3), .val (.long q4), .second, .val (.int (8 : Int32))] [(.int p1), (.int n), (.ref b50_b4)])) := K101.trans (by
    show Steps p.tables e below (T100.setTop (mkF m 110 #[.val (.ref o0), .val (.int p1), .val (.long q2), .second, .val (.int p3), .val (.long q4), .second, .val (.int (8 : Int32))] [(.int n), (.ref b50_b4)])) _
    refine XS.iloadN X100.here hx rfl (hb hby d3_110) rfl ?_
    show Steps p.tables e below (T100.setTop (mkF m 111 #[.val (.ref o0), .val (.int p1), .val (.long q2), .second, .val (.int p3), .val (.long q4), .second, .val (.int (8 : Int32))] [(.int p1), (.int n), (.ref b50_b4)])) _
    exact Steps.refl _)
  obtain ⟨v103_0, hv103_0, S103⟩ : ∃ (v103_0 : Int32), (if p1 = (0 : Int32) then (0 : Int32) else (1 : Int32)) = v103_0 ∧ Steps p.tables e below (T100.setTop (mkF m 111 #[.val (.ref o0), .val (.int p1), .val (.long q2), .second, .val (.int p3), .val (.long q4), .second, .val (.int (8 : Int32))] [(.int p1), (.int n), (.ref b50_b4)])) (T100.setTop (mkF m 119 #[.val (.ref o0), .val (.int p1), .val (.long q2), .second, .val (.int p3), .val (.long q4), .second, .val (.int (8 : Int32))] [(.int v103_0), (.int n), (.ref b50_b4)])) := by
    have R103 : Steps p.tables e below (T100.setTop (mkF m 111 #[.val (.ref o0), .val (.int p1), .val (.long q2), .second, .val (.int p3), .val (.long q4), .second, .val (.int (8 : Int32))] [(.int p1), (.int n), (.ref b50_b4)])) (T100.setTop (mkF m 111 #[.val (.ref o0), .val (.int p1), .val (.long q2), .second, .val (.int p3), .val (.long q4), .second, .val (.int (8 : Int32))] [(.int p1), (.int n), (.ref b50_b4)])) := Steps.refl _
    by_cases hc111 : p1 = (0 : Int32)
    · have K104 : Steps p.tables e below _ (T100.setTop (mkF m 119 #[.val (.ref o0), .val (.int p1), .val (.long q2), .second, .val (.int p3), .val (.long q4), .second, .val (.int (8 : Int32))] [(.int (0 : Int32)), (.int n), (.ref b50_b4)])) := R103.trans (by
        show Steps p.tables e below (T100.setTop (mkF m 111 #[.val (.ref o0), .val (.int p1), .val (.long q2), .second, .val (.int p3), .val (.long q4), .second, .val (.int (8 : Int32))] [(.int p1), (.int n), (.ref b50_b4)])) _
        refine XS.ifYes X100.here hx rfl (pc0 := 111) (pc' := 118) rfl (hb hby d3_111) rfl ((if0 _ _).trans (teq hc111).1) (by decide) (by decide) ?_
        show Steps p.tables e below (T100.setTop (mkF m 118 #[.val (.ref o0), .val (.int p1), .val (.long q2), .second, .val (.int p3), .val (.long q4), .second, .val (.int (8 : Int32))] [(.int n), (.ref b50_b4)])) _
        refine XS.iconst X100.here hx rfl (hb hby d3_118) ?_
        show Steps p.tables e below (T100.setTop (mkF m 119 #[.val (.ref o0), .val (.int p1), .val (.long q2), .second, .val (.int p3), .val (.long q4), .second, .val (.int (8 : Int32))] [(.int (0 : Int32)), (.int n), (.ref b50_b4)])) _
        exact Steps.refl _)
      exact ⟨(0 : Int32), (by rw [if_pos hc111]), K104⟩
    · have K105 : Steps p.tables e below _ (T100.setTop (mkF m 119 #[.val (.ref o0), .val (.int p1), .val (.long q2), .second, .val (.int p3), .val (.long q4), .second, .val (.int (8 : Int32))] [(.int (1 : Int32)), (.int n), (.ref b50_b4)])) := R103.trans (by
        show Steps p.tables e below (T100.setTop (mkF m 111 #[.val (.ref o0), .val (.int p1), .val (.long q2), .second, .val (.int p3), .val (.long q4), .second, .val (.int (8 : Int32))] [(.int p1), (.int n), (.ref b50_b4)])) _
        refine XS.ifNo X100.here hx rfl (hb hby d3_111) rfl ((if0 _ _).trans (feq hc111).1) ?_
        show Steps p.tables e below (T100.setTop (mkF m 114 #[.val (.ref o0), .val (.int p1), .val (.long q2), .second, .val (.int p3), .val (.long q4), .second, .val (.int (8 : Int32))] [(.int n), (.ref b50_b4)])) _
        refine XS.iconst X100.here hx rfl (hb hby d3_114) ?_
        show Steps p.tables e below (T100.setTop (mkF m 115 #[.val (.ref o0), .val (.int p1), .val (.long q2), .second, .val (.int p3), .val (.long q4), .second, .val (.int (8 : Int32))] [(.int (1 : Int32)), (.int n), (.ref b50_b4)])) _
        refine XS.goto X100.here hx rfl (pc0 := 115) (pc' := 119) rfl (hb hby d3_115) (by decide) (by decide) ?_
        show Steps p.tables e below (T100.setTop (mkF m 119 #[.val (.ref o0), .val (.int p1), .val (.long q2), .second, .val (.int p3), .val (.long q4), .second, .val (.int (8 : Int32))] [(.int (1 : Int32)), (.int n), (.ref b50_b4)])) _
        exact Steps.refl _)
      exact ⟨(1 : Int32), (by rw [if_neg hc111]), K105⟩
  have K106 := K102.trans S103
  have K107 : Steps p.tables e below _ (T100.setTop (mkF m 121 #[.val (.ref o0), .val (.int p1), .val (.long q2), .second, .val (.int p3), .val (.long q4), .second, .val (.int (8 : Int32))] [(.int p3), (.int v103_0), (.int n), (.ref b50_b4)])) := K106.trans (by
    show Steps p.tables e below (T100.setTop (mkF m 119 #[.val (.ref o0), .val (.int p1), .val (.long q2), .second, .val (.int p3), .val (.long q4), .second, .val (.int (8 : Int32))] [(.int v103_0), (.int n), (.ref b50_b4)])) _
    refine XS.iload X100.here hx rfl (hb hby d3_119) rfl ?_
    show Steps p.tables e below (T100.setTop (mkF m 121 #[.val (.ref o0), .val (.int p1), .val (.long q2), .second, .val (.int p3), .val (.long q4), .second, .val (.int (8 : Int32))] [(.int p3), (.int v103_0), (.int n), (.ref b50_b4)])) _
    exact Steps.refl _)
  obtain ⟨v108_0, hv108_0, S108⟩ : ∃ (v108_0 : Int32), (if p3 = (0 : Int32) then (0 : Int32) else (2 : Int32)) = v108_0 ∧ Steps p.tables e below (T100.setTop (mkF m 121 #[.val (.ref o0), .val (.int p1), .val (.long q2), .second, .val (.int p3), .val (.long q4), .second, .val (.int (8 : Int32))] [(.int p3), (.int v103_0), (.int n), (.ref b50_b4)])) (T100.setTop (mkF m 129 #[.val (.ref o0), .val (.int p1), .val (.long q2), .second, .val (.int p3), .val (.long q4), .second, .val (.int (8 : Int32))] [(.int v108_0), (.int v103_0), (.int n), (.ref b50_b4)])) := by
    have R108 : Steps p.tables e below (T100.setTop (mkF m 121 #[.val (.ref o0), .val (.int p1), .val (.long q2), .second, .val (.int p3), .val (.long q4), .second, .val (.int (8 : Int32))] [(.int p3), (.int v103_0), (.int n), (.ref b50_b4)])) (T100.setTop (mkF m 121 #[.val (.ref o0), .val (.int p1), .val (.long q2), .second, .val (.int p3), .val (.long q4), .second, .val (.int (8 : Int32))] [(.int p3), (.int v103_0), (.int n), (.ref b50_b4)])) := Steps.refl _
    by_cases hc121 : p3 = (0 : Int32)
    · have K109 : Steps p.tables e below _ (T100.setTop (mkF m 129 #[.val (.ref o0), .val (.int p1), .val (.long q2), .second, .val (.int p3), .val (.long q4), .second, .val (.int (8 : Int32))] [(.int (0 : Int32)), (.int v103_0), (.int n), (.ref b50_b4)])) := R108.trans (by
        show Steps p.tables e below (T100.setTop (mkF m 121 #[.val (.ref o0), .val (.int p1), .val (.long q2), .second, .val (.int p3), .val (.long q4), .second, .val (.int (8 : Int32))] [(.int p3), (.int v103_0), (.int n), (.ref b50_b4)])) _
        refine XS.ifYes X100.here hx rfl (pc0 := 121) (pc' := 128) rfl (hb hby d3_121) rfl ((if0 _ _).trans (teq hc121).1) (by decide) (by decide) ?_
        show Steps p.tables e below (T100.setTop (mkF m 128 #[.val (.ref o0), .val (.int p1), .val (.long q2), .second, .val (.int p3), .val (.long q4), .second, .val (.int (8 : Int32))] [(.int v103_0), (.int n), (.ref b50_b4)])) _
        refine XS.iconst X100.here hx rfl (hb hby d3_128) ?_
        show Steps p.tables e below (T100.setTop (mkF m 129 #[.val (.ref o0), .val (.int p1), .val (.long q2), .second, .val (.int p3), .val (.long q4), .second, .val (.int (8 : Int32))] [(.int (0 : Int32)), (.int v103_0), (.int n), (.ref b50_b4)])) _
        exact Steps.refl _)
      exact ⟨(0 : Int32), (by rw [if_pos hc121]), K109⟩
    · have K110 : Steps p.tables e below _ (T100.setTop (mkF m 129 #[.val (.ref o0), .val (.int p1), .val (.long q2), .second, .val (.int p3), .val (.long q4), .second, .val (.int (8 : Int32))] [(.int (2 : Int32)), (.int v103_0), (.int n), (.ref b50_b4)])) := R108.trans (by
        show Steps p.tables e below (T100.setTop (mkF m 121 #[.val (.ref o0), .val (.int p1), .val (.long q2), .second, .val (.int p3), .val (.long q4), .second, .val (.int (8 : Int32))] [(.int p3), (.int v103_0), (.int n), (.ref b50_b4)])) _
        refine XS.ifNo X100.here hx rfl (hb hby d3_121) rfl ((if0 _ _).trans (feq hc121).1) ?_
        show Steps p.tables e below (T100.setTop (mkF m 124 #[.val (.ref o0), .val (.int p1), .val (.long q2), .second, .val (.int p3), .val (.long q4), .second, .val (.int (8 : Int32))] [(.int v103_0), (.int n), (.ref b50_b4)])) _
        refine XS.iconst X100.here hx rfl (hb hby d3_124) ?_
        show Steps p.tables e below (T100.setTop (mkF m 125 #[.val (.ref o0), .val (.int p1), .val (.long q2), .second, .val (.int p3), .val (.long q4), .second, .val (.int (8 : Int32))] [(.int (2 : Int32)), (.int v103_0), (.int n), (.ref b50_b4)])) _
        refine XS.goto X100.here hx rfl (pc0 := 125) (pc' := 129) rfl (hb hby d3_125) (by decide) (by decide) ?_
        show Steps p.tables e below (T100.setTop (mkF m 129 #[.val (.ref o0), .val (.int p1), .val (.long q2), .second, .val (.int p3), .val (.long q4), .second, .val (.int (8 : Int32))] [(.int (2 : Int32)), (.int v103_0), (.int n), (.ref b50_b4)])) _
        exact Steps.refl _)
      exact ⟨(2 : Int32), (by rw [if_neg hc121]), K110⟩
  have K111 := K107.trans S108
  have K112 : Steps p.tables e below _ (T100.setTop (mkF m 131 #[.val (.ref o0), .val (.int p1), .val (.long q2), .second, .val (.int p3), .val (.long q4), .second, .val (.int (8 : Int32))] [(.int ((v103_0 ||| v108_0).toInt8.toInt32)), (.int n), (.ref b50_b4)])) := K111.trans (by
    show Steps p.tables e below (T100.setTop (mkF m 129 #[.val (.ref o0), .val (.int p1), .val (.long q2), .second, .val (.int p3), .val (.long q4), .second, .val (.int (8 : Int32))] [(.int v108_0), (.int v103_0), (.int n), (.ref b50_b4)])) _
    refine XS.ior X100.here hx rfl (hb hby d3_129) rfl ?_
    show Steps p.tables e below (T100.setTop (mkF m 130 #[.val (.ref o0), .val (.int p1), .val (.long q2), .second, .val (.int p3), .val (.long q4), .second, .val (.int (8 : Int32))] [(.int (v103_0 ||| v108_0)), (.int n), (.ref b50_b4)])) _
    refine XS.i2b X100.here hx rfl (hb hby d3_130) rfl ?_
    show Steps p.tables e below (T100.setTop (mkF m 131 #[.val (.ref o0), .val (.int p1), .val (.long q2), .second, .val (.int p3), .val (.long q4), .second, .val (.int (8 : Int32))] [(.int ((v103_0 ||| v108_0).toInt8.toInt32)), (.int n), (.ref b50_b4)])) _
    exact Steps.refl _)
  have V_113 : Arv Z h92 b50_b4 k4_50 .byte (8 : Int32) (own_cp 8 z.toNatClampNeg ve (.int (0 : Int32))) (.int (0 : Int32)) := (((Q50_1.other W60 (Ne.symm ne_o0_b50_b4)).other W76 (Ne.symm ne_b19_b4_b50_b4)).other W92 (Ne.symm ne_b32_b4_b50_b4))
  obtain ⟨T114, h114, X114, e114, W114, V114, st114⟩ := own_stB X100 hx hZ e100 V_113 (j := n) hq8 i hi (by rw [own_cp_len _ _ _ _ hzn]; exact hlen) (g := (mkF m 131 #[.val (.ref o0), .val (.int p1), .val (.long q2), .second, .val (.int p3), .val (.long q4), .second, .val (.int (8 : Int32))] [(.int ((v103_0 ||| v108_0).toInt8.toInt32)), (.int n), (.ref b50_b4)])) rfl rfl (hb hby d3_131)
  have K115 : Steps p.tables e below _ (T114.setTop (mkF m 132 #[.val (.ref o0), .val (.int p1), .val (.long q2), .second, .val (.int p3), .val (.long q4), .second, .val (.int (8 : Int32))] [])) := K112.trans st114
  have Vw114 : Arv Z h114 b50_b4 k4_50 .byte (8 : Int32) ((own_cp 8 z.toNatClampNeg ve (.int (0 : Int32))).set i (.int (((v103_0 ||| v108_0).toInt8.toInt32).toInt8.toInt32))) (.int (0 : Int32)) := V114
  have N114 := Fr.snoc X114 N92 ge_b50_b4
  have K116 : Steps p.tables e below _ (T114.setTop (mkF m 134 #[.val (.ref o0), .val (.int p1), .val (.long q2), .second, .val (.int p3), .val (.long q4), .second, .val (.int (8 : Int32))] [(.ref o0), (.ref o0)])) := K115.trans (by
    show Steps p.tables e below (T114.setTop (mkF m 132 #[.val (.ref o0), .val (.int p1), .val (.long q2), .second, .val (.int p3), .val (.long q4), .second, .val (.int (8 : Int32))] [])) _
    refine XS.aloadN X114.here hx rfl (hb hby d3_132) rfl rfl ?_
    show Steps p.tables e below (T114.setTop (mkF m 133 #[.val (.ref o0), .val (.int p1), .val (.long q2), .second, .val (.int p3), .val (.long q4), .second, .val (.int (8 : Int32))] [(.ref o0)])) _
    refine XS.dup X114.here hx rfl (hb hby d3_133) rfl rfl ?_
    show Steps p.tables e below (T114.setTop (mkF m 134 #[.val (.ref o0), .val (.int p1), .val (.long q2), .second, .val (.int p3), .val (.long q4), .second, .val (.int (8 : Int32))] [(.ref o0), (.ref o0)])) _
    exact Steps.refl _)
  have F_117 : Fld Z h114 o0 "com/example/spanfold/spanfold/RangeList" "size" "I" (.int n) := (F_99.other W114 (Or.inl ne_o0_b50_b4))
  obtain ⟨T118, X118, e118, st118⟩ := getF X114 hx hZ hown (host := "") (Or.inl (hw _ (List.mem_of_getElem? (i := 22) rfl))) Via.refl e114 F_117 (g := (mkF m 134 #[.val (.ref o0), .val (.int p1), .val (.long q2), .second, .val (.int p3), .val (.long q4), .second, .val (.int (8 : Int32))] [(.ref o0), (.ref o0)])) rfl rfl (hb hby d3_134)
  have K119 : Steps p.tables e below _ (T118.setTop (mkF m 137 #[.val (.ref o0), .val (.int p1), .val (.long q2), .second, .val (.int p3), .val (.long q4), .second, .val (.int (8 : Int32))] [(.int n), (.ref o0)])) := K116.trans (st118 _ (Steps.refl _))
  have K120 : Steps p.tables e below _ (T118.setTop (mkF m 139 #[.val (.ref o0), .val (.int p1), .val (.long q2), .second, .val (.int p3), .val (.long q4), .second, .val (.int (8 : Int32))] [(.int (n + (1 : Int32))), (.ref o0)])) := K119.trans (by
    show Steps p.tables e below (T118.setTop (mkF m 137 #[.val (.ref o0), .val (.int p1), .val (.long q2), .second, .val (.int p3), .val (.long q4), .second, .val (.int (8 : Int32))] [(.int n), (.ref o0)])) _
    refine XS.iconst X118.here hx rfl (hb hby d3_137) ?_
    show Steps p.tables e below (T118.setTop (mkF m 138 #[.val (.ref o0), .val (.int p1), .val (.long q2), .second, .val (.int p3), .val (.long q4), .second, .val (.int (8 : Int32))] [(.int (1 : Int32)), (.int n), (.ref o0)])) _
    refine XS.iadd X118.here hx rfl (hb hby d3_138) rfl ?_
    show Steps p.tables e below (T118.setTop (mkF m 139 #[.val (.ref o0), .val (.int p1), .val (.long q2), .second, .val (.int p3), .val (.long q4), .second, .val (.int (8 : Int32))] [(.int (n + (1 : Int32))), (.ref o0)])) _
    exact Steps.refl _)
  have E_121 : Exa Z h114 o0 "com/example/spanfold/spanfold/RangeList" := ((((E_58.wr W60).wr W76).wr W92).wr W114)
  obtain ⟨T122, h122, X122, e122, W122, st122⟩ := putF X118 hx hZ hown (host := "") (Or.inl (hw _ (List.mem_of_getElem? (i := 22) rfl))) Via.refl e118 F_117 E_121 (Or.inl (hw _ (List.mem_of_getElem? (i := 23) rfl))) (hw _ (List.mem_of_getElem? (i := 1) rfl)) (ty := .int) (by decide) rfl rfl (g := (mkF m 139 #[.val (.ref o0), .val (.int p1), .val (.long q2), .second, .val (.int p3), .val (.long q4), .second, .val (.int (8 : Int32))] [(.int (n + (1 : Int32))), (.ref o0)])) rfl rfl (hb hby d3_139)
  have K123 : Steps p.tables e below _ (T122.setTop (mkF m 142 #[.val (.ref o0), .val (.int p1), .val (.long q2), .second, .val (.int p3), .val (.long q4), .second, .val (.int (8 : Int32))] [])) := K120.trans (st122 _ (Steps.refl _))
  have Fw122 : Fld Z h122 o0 "com/example/spanfold/spanfold/RangeList" "size" "I" (.int (n + (1 : Int32))) := F_117.same W122
  have N122 := Fr.snoc X122 N114 g_o0
  subst hv108_0
  subst hv103_0
  subst hv87_0
  subst hv71_0
  obtain ⟨fs, hr, hrun, hended, hW, hsame⟩ := X122.leave (v := none) (fun _ => rfl)
  have K_124 : Keep h0 h122 [o0] := ((((((K_56.trans Kp50 all0).wr W60 (Or.inl (List.mem_of_getElem? (i := 0) rfl))).wr W76 (Or.inr sz_b19_b4)).wr W92 (Or.inr sz_b32_b4)).wr W114 (Or.inr sz_b50_b4)).wr W122 (Or.inl (List.mem_of_getElem? (i := 0) rfl)))
  have E_125 : Exa Z h122 o0 "com/example/spanfold/spanfold/RangeList" := (E_121.wr W122)
  have F_126 : Fld Z h122 o0 "com/example/spanfold/spanfold/RangeList" "froms" "[J" (.ref b19_b4) := ((((F_63.other W76 (Or.inl ne_o0_b19_b4)).other W92 (Or.inl ne_o0_b32_b4)).other W114 (Or.inl ne_o0_b50_b4)).other W122 (Or.inr (slot_ne (Or.inl (hw _ (List.mem_of_getElem? (i := 11) rfl))) (Or.inl (hw _ (List.mem_of_getElem? (i := 23) rfl))) (by decide) (t := (.array .long)) (t' := .int) (by decide) (by decide))))
  have F_127 : Fld Z h122 o0 "com/example/spanfold/spanfold/RangeList" "tos" "[J" (.ref b32_b4) := (((F_79.other W92 (Or.inl ne_o0_b32_b4)).other W114 (Or.inl ne_o0_b50_b4)).other W122 (Or.inr (slot_ne (Or.inl (hw _ (List.mem_of_getElem? (i := 13) rfl))) (Or.inl (hw _ (List.mem_of_getElem? (i := 23) rfl))) (by decide) (t := (.array .long)) (t' := .int) (by decide) (by decide))))
  have F_128 : Fld Z h122 o0 "com/example/spanfold/spanfold/RangeList" "ends" "[B" (.ref b50_b4) := ((F_95.other W114 (Or.inl ne_o0_b50_b4)).other W122 (Or.inr (slot_ne (Or.inl (hw _ (List.mem_of_getElem? (i := 16) rfl))) (Or.inl (hw _ (List.mem_of_getElem? (i := 23) rfl))) (by decide) (t := (.array .byte)) (t' := .int) (by decide) (by decide))))
  have E_129 : Exa Z h122 b19_b4 "[J" := ((((((E_54.keep Kp50).wr W60).wr W76).wr W92).wr W114).wr W122)
  have V_130 : Arv Z h122 b19_b4 k4_19 .long (8 : Int32) ((own_cp 8 z.toNatClampNeg vf (.long (0 : Int64))).set i (.long (if p1 = (0 : Int32) then (0 : Int64) else q2))) (.long (0 : Int64)) := (((Vw76.other W92 ne_b19_b4_b32_b4).other W114 ne_b19_b4_b50_b4).other W122 (Ne.symm ne_o0_b19_b4))
  have E_131 : Exa Z h122 b32_b4 "[J" := ((((((E_55.keep Kp50).wr W60).wr W76).wr W92).wr W114).wr W122)
  have V_132 : Arv Z h122 b32_b4 k4_32 .long (8 : Int32) ((own_cp 8 z.toNatClampNeg vt (.long (0 : Int64))).set i (.long (if p3 = (0 : Int32) then (0 : Int64) else q4))) (.long (0 : Int64)) := ((Vw92.other W114 ne_b32_b4_b50_b4).other W122 (Ne.symm ne_o0_b32_b4))
  have E_133 : Exa Z h122 b50_b4 "[B" := (((((Q50_0.wr W60).wr W76).wr W92).wr W114).wr W122)
  have V_134 : Arv Z h122 b50_b4 k4_50 .byte (8 : Int32) ((own_cp 8 z.toNatClampNeg ve (.int (0 : Int32))).set i (.int ((((if p1 = (0 : Int32) then (0 : Int32) else (1 : Int32)) ||| (if p3 = (0 : Int32) then (0 : Int32) else (2 : Int32))).toInt8.toInt32).toInt8.toInt32))) (.int (0 : Int32)) := (Vw114.other W122 (Ne.symm ne_o0_b50_b4))
  refine ⟨_, _, K123.trans (X122.returnOut hx Bd.returns (hb hby d3_142) hr), hrun, hended, _, _, rfl, ?_, ⟨_, rfl⟩, hW, hsame.mono (by decide) (by first | decide | omega)⟩
  show Q_rm3g Z o0 p1 q2 p3 q4 fa ta ea kf kt ke z vf vt ve n i h0 n0 _ T122.heap _
  rw [e122]
  exact ⟨b19_b4, b32_b4, b50_b4, k4_19, k4_32, k4_50, rfl, N122, K_124, E_125, F_126, F_127, F_128, Fw122, E_129, V_130, E_131, V_132, E_133, V_134, sz_b19_b4, sz_b32_b4, sz_b50_b4, ne_b19_b4_b32_b4, ne_b19_b4_b50_b4, ne_b32_b4_b50_b4⟩
theorem pd_4 : parseMethodDescriptor "(I)V" = some ⟨[.int], none⟩ := by decide +kernel
theorem pd_5 : parseMethodDescriptor "(ZJZJ)V" = some ⟨[.boolean, .long, .boolean, .long], none⟩ := by decide +kernel
theorem pd_6 : parseMethodDescriptor "(I)Z" = some ⟨[.int], some .boolean⟩ := by decide +kernel
def Q_rm0 (n0 : Nat) (v : Option Value) (L : List Loc) : Prop := v = some (.int 1) ∧ Fr n0 L
theorem pn_0 : plainName "com/example/spanfold/spanfold/RangeListHasToPinLaw" = true := by first | (simp [plainName, overriddenIn]; done) | decide +kernel
theorem ef_0 (m : MethodId) (x0 : Int32) (x1 : Int32) (x2 : Int64) (x3 : Int64) : entryFrame m #[(.int x0), (.int x1), (.long x2), (.long x3)] maxLocals = mkF m 0 #[.val (.int x0), .val (.int x1), .val (.long x2), .second, .val (.long x3), .second, .unset, .unset, .unset, .unset, .unset, .unset, .unset] [] := by first | (simp [entryFrame, mkF, argsToLocals, Value.category, maxLocals]; done) | rfl
set_option maxRecDepth 65536 in
set_option maxHeartbeats 4000000 in
theorem own_law_0 (p0 : Int32) (p1 : Int32) (q2 : Int64) (q3 : Int64) (v8_0 : Int32) (v13_0 : Int32) (v18_0 : Int32) (v23_0 : Int32) (v28_0 : Int32) (v33_0 : Int32) (r52 : Int32) (v55_0 : Int32) (hv8_0 : (if (p1 &&& (1 : Int32)) = (0 : Int32) then (0 : Int32) else (1 : Int32)) = v8_0) (hv13_0 : (if (p1 &&& (2 : Int32)) = (0 : Int32) then (0 : Int32) else (1 : Int32)) = v13_0) (hv18_0 : (if (p1 &&& (4 : Int32)) = (0 : Int32) then (0 : Int32) else (1 : Int32)) = v18_0) (hv23_0 : (if (p1 &&& (8 : Int32)) = (0 : Int32) then (0 : Int32) else (1 : Int32)) = v23_0) (hv28_0 : (if (p1 &&& (16 : Int32)) = (0 : Int32) then (0 : Int32) else (1 : Int32)) = v28_0) (hv33_0 : (if (p1 &&& (32 : Int32)) = (0 : Int32) then (0 : Int32) else (1 : Int32)) = v33_0) (hr52 : ((if (((((if v8_0 = (0 : Int32) then (0 : Int32) else (1 : Int32)) ||| (if v13_0 = (0 : Int32) then (0 : Int32) else (2 : Int32))).toInt8.toInt32).toInt8.toInt32) &&& (2 : Int32)) = (0 : Int32) then (0 : Int32) else (1 : Int32)) &&& 1) = r52) (hv55_0 : (if r52 = v13_0 then (if ((if (((((if v18_0 = (0 : Int32) then (0 : Int32) else (1 : Int32)) ||| (if v23_0 = (0 : Int32) then (0 : Int32) else (2 : Int32))).toInt8.toInt32).toInt8.toInt32) &&& (2 : Int32)) = (0 : Int32) then (0 : Int32) else (1 : Int32)) &&& 1) = v23_0 then (if ((if (((((if v28_0 = (0 : Int32) then (0 : Int32) else (1 : Int32)) ||| (if v33_0 = (0 : Int32) then (0 : Int32) else (2 : Int32))).toInt8.toInt32).toInt8.toInt32) &&& (2 : Int32)) = (0 : Int32) then (0 : Int32) else (1 : Int32)) &&& 1) = v33_0 then (1 : Int32) else (0 : Int32)) else (0 : Int32)) else (0 : Int32)) = v55_0) : (v55_0 &&& 1) = (1 : Int32) := by
  rw [own_bitT (own_b01 hv8_0) (own_b01 hv13_0)] at hr52
  rw [own_bitT (own_b01 hv18_0) (own_b01 hv23_0), own_bitT (own_b01 hv28_0) (own_b01 hv33_0)] at hv55_0
  subst hr52
  rw [if_pos rfl, if_pos rfl, if_pos rfl] at hv55_0
  subst hv55_0
  decide
set_option maxRecDepth 65536 in
set_option maxHeartbeats 4000000 in
theorem own_law_1 (p0 : Int32) (p1 : Int32) (q2 : Int64) (q3 : Int64) (v75_0 : Int32) (v80_0 : Int32) (v85_0 : Int32) (v90_0 : Int32) (v95_0 : Int32) (v100_0 : Int32) (r122 : Int32) (v125_0 : Int32) (hv75_0 : (if (p1 &&& (1 : Int32)) = (0 : Int32) then (0 : Int32) else (1 : Int32)) = v75_0) (hv80_0 : (if (p1 &&& (2 : Int32)) = (0 : Int32) then (0 : Int32) else (1 : Int32)) = v80_0) (hv85_0 : (if (p1 &&& (4 : Int32)) = (0 : Int32) then (0 : Int32) else (1 : Int32)) = v85_0) (hv90_0 : (if (p1 &&& (8 : Int32)) = (0 : Int32) then (0 : Int32) else (1 : Int32)) = v90_0) (hv95_0 : (if (p1 &&& (16 : Int32)) = (0 : Int32) then (0 : Int32) else (1 : Int32)) = v95_0) (hv100_0 : (if (p1 &&& (32 : Int32)) = (0 : Int32) then (0 : Int32) else (1 : Int32)) = v100_0) (hr122 : ((if (((((if v75_0 = (0 : Int32) then (0 : Int32) else (1 : Int32)) ||| (if v80_0 = (0 : Int32) then (0 : Int32) else (2 : Int32))).toInt8.toInt32).toInt8.toInt32) &&& (2 : Int32)) = (0 : Int32) then (0 : Int32) else (1 : Int32)) &&& 1) = r122) (hv125_0 : (if r122 = v80_0 then (if ((if (((((if v85_0 = (0 : Int32) then (0 : Int32) else (1 : Int32)) ||| (if v90_0 = (0 : Int32) then (0 : Int32) else (2 : Int32))).toInt8.toInt32).toInt8.toInt32) &&& (2 : Int32)) = (0 : Int32) then (0 : Int32) else (1 : Int32)) &&& 1) = v90_0 then (if ((if (((((if v95_0 = (0 : Int32) then (0 : Int32) else (1 : Int32)) ||| (if v100_0 = (0 : Int32) then (0 : Int32) else (2 : Int32))).toInt8.toInt32).toInt8.toInt32) &&& (2 : Int32)) = (0 : Int32) then (0 : Int32) else (1 : Int32)) &&& 1) = v100_0 then (1 : Int32) else (0 : Int32)) else (0 : Int32)) else (0 : Int32)) = v125_0) : (v125_0 &&& 1) = (1 : Int32) := by
  rw [own_bitT (own_b01 hv75_0) (own_b01 hv80_0)] at hr122
  rw [own_bitT (own_b01 hv85_0) (own_b01 hv90_0), own_bitT (own_b01 hv95_0) (own_b01 hv100_0)] at hv125_0
  subst hr122
  rw [if_pos rfl, if_pos rfl, if_pos rfl] at hv125_0
  subst hv125_0
  decide
set_option maxRecDepth 65536 in
set_option maxHeartbeats 4000000 in
theorem own_law_2 (p0 : Int32) (p1 : Int32) (q2 : Int64) (q3 : Int64) (v145_0 : Int32) (v150_0 : Int32) (v155_0 : Int32) (v160_0 : Int32) (v165_0 : Int32) (v170_0 : Int32) (r192 : Int32) (v195_0 : Int32) (hv145_0 : (if (p1 &&& (1 : Int32)) = (0 : Int32) then (0 : Int32) else (1 : Int32)) = v145_0) (hv150_0 : (if (p1 &&& (2 : Int32)) = (0 : Int32) then (0 : Int32) else (1 : Int32)) = v150_0) (hv155_0 : (if (p1 &&& (4 : Int32)) = (0 : Int32) then (0 : Int32) else (1 : Int32)) = v155_0) (hv160_0 : (if (p1 &&& (8 : Int32)) = (0 : Int32) then (0 : Int32) else (1 : Int32)) = v160_0) (hv165_0 : (if (p1 &&& (16 : Int32)) = (0 : Int32) then (0 : Int32) else (1 : Int32)) = v165_0) (hv170_0 : (if (p1 &&& (32 : Int32)) = (0 : Int32) then (0 : Int32) else (1 : Int32)) = v170_0) (hr192 : ((if (((((if v145_0 = (0 : Int32) then (0 : Int32) else (1 : Int32)) ||| (if v150_0 = (0 : Int32) then (0 : Int32) else (2 : Int32))).toInt8.toInt32).toInt8.toInt32) &&& (2 : Int32)) = (0 : Int32) then (0 : Int32) else (1 : Int32)) &&& 1) = r192) (hv195_0 : (if r192 = v150_0 then (if ((if (((((if v155_0 = (0 : Int32) then (0 : Int32) else (1 : Int32)) ||| (if v160_0 = (0 : Int32) then (0 : Int32) else (2 : Int32))).toInt8.toInt32).toInt8.toInt32) &&& (2 : Int32)) = (0 : Int32) then (0 : Int32) else (1 : Int32)) &&& 1) = v160_0 then (if ((if (((((if v165_0 = (0 : Int32) then (0 : Int32) else (1 : Int32)) ||| (if v170_0 = (0 : Int32) then (0 : Int32) else (2 : Int32))).toInt8.toInt32).toInt8.toInt32) &&& (2 : Int32)) = (0 : Int32) then (0 : Int32) else (1 : Int32)) &&& 1) = v170_0 then (1 : Int32) else (0 : Int32)) else (0 : Int32)) else (0 : Int32)) = v195_0) : (v195_0 &&& 1) = (1 : Int32) := by
  rw [own_bitT (own_b01 hv145_0) (own_b01 hv150_0)] at hr192
  rw [own_bitT (own_b01 hv155_0) (own_b01 hv160_0), own_bitT (own_b01 hv165_0) (own_b01 hv170_0)] at hv195_0
  subst hr192
  rw [if_pos rfl, if_pos rfl, if_pos rfl] at hv195_0
  subst hv195_0
  decide
set_option maxRecDepth 65536 in
set_option maxHeartbeats 4000000 in
theorem own_law_3 (p0 : Int32) (p1 : Int32) (q2 : Int64) (q3 : Int64) (v215_0 : Int32) (v220_0 : Int32) (v225_0 : Int32) (v230_0 : Int32) (v235_0 : Int32) (v240_0 : Int32) (r259 : Int32) (v262_0 : Int32) (hv215_0 : (if (p1 &&& (1 : Int32)) = (0 : Int32) then (0 : Int32) else (1 : Int32)) = v215_0) (hv220_0 : (if (p1 &&& (2 : Int32)) = (0 : Int32) then (0 : Int32) else (1 : Int32)) = v220_0) (hv225_0 : (if (p1 &&& (4 : Int32)) = (0 : Int32) then (0 : Int32) else (1 : Int32)) = v225_0) (hv230_0 : (if (p1 &&& (8 : Int32)) = (0 : Int32) then (0 : Int32) else (1 : Int32)) = v230_0) (hv235_0 : (if (p1 &&& (16 : Int32)) = (0 : Int32) then (0 : Int32) else (1 : Int32)) = v235_0) (hv240_0 : (if (p1 &&& (32 : Int32)) = (0 : Int32) then (0 : Int32) else (1 : Int32)) = v240_0) (hr259 : ((if (((((if v215_0 = (0 : Int32) then (0 : Int32) else (1 : Int32)) ||| (if v220_0 = (0 : Int32) then (0 : Int32) else (2 : Int32))).toInt8.toInt32).toInt8.toInt32) &&& (2 : Int32)) = (0 : Int32) then (0 : Int32) else (1 : Int32)) &&& 1) = r259) (hv262_0 : (if r259 = v220_0 then (if ((if (((((if v225_0 = (0 : Int32) then (0 : Int32) else (1 : Int32)) ||| (if v230_0 = (0 : Int32) then (0 : Int32) else (2 : Int32))).toInt8.toInt32).toInt8.toInt32) &&& (2 : Int32)) = (0 : Int32) then (0 : Int32) else (1 : Int32)) &&& 1) = v230_0 then (if ((if (((((if v235_0 = (0 : Int32) then (0 : Int32) else (1 : Int32)) ||| (if v240_0 = (0 : Int32) then (0 : Int32) else (2 : Int32))).toInt8.toInt32).toInt8.toInt32) &&& (2 : Int32)) = (0 : Int32) then (0 : Int32) else (1 : Int32)) &&& 1) = v240_0 then (1 : Int32) else (0 : Int32)) else (0 : Int32)) else (0 : Int32)) = v262_0) : (v262_0 &&& 1) = (1 : Int32) := by
  rw [own_bitT (own_b01 hv215_0) (own_b01 hv220_0)] at hr259
  rw [own_bitT (own_b01 hv225_0) (own_b01 hv230_0), own_bitT (own_b01 hv235_0) (own_b01 hv240_0)] at hv262_0
  subst hr259
  rw [if_pos rfl, if_pos rfl, if_pos rfl] at hv262_0
  subst hv262_0
  decide
set_option maxRecDepth 65536 in
set_option maxHeartbeats 40000000 in
theorem rm0 (l : Launch) (Z : State) (a0 : Array Value) (hw : ∀ d ∈ tables_1, d.before a0 Z = true) (ws : List Jvm.Cond) (p0 : Int32) (p1 : Int32) (q2 : Int64) (q3 : Int64) (h0 : Heap) (n0 : Nat) (Z0 : n0 ≤ h0.size) :
    MetFree l x (head1 (Jvm.Cond.code x code maxLocals ret :: ws) room_1) (fun a U => a = #[(.int p0), (.int p1), (.long q2), (.long q3)] ∧ Z.Warmed39 U.vm ∧ U.heap = h0) (fun _ _ _ _ _ => True) (fun _ U o U' => ∃ v L, o = .returned v ∧ Q_rm0 n0 v L ∧ FrameEnd U o U' L 7 37) := by
  refine MetFree.of_bodySF (plainFor_of_name pn_0) hisR ?_
  intro p e s m args below meth c s₁ Bd hml0 hP hK
  obtain ⟨rfl, hZ, hh⟩ := hP
  have hx := Bd.exec
  have hby := Bd.bytes
  have hml : c.maxLocals = 13 := hml0
  have hown : s.vm.findClass "com/example/spanfold/spanfold/RangeListHasToPinLaw" = some m.cls := findClass_of_methodNamed Bd.named
  have hnm := (name_of_methodNamed Bd.named Bd.method).1
  have X0 : Stand p l e room_1 s m #[(.int p0), (.int p1), (.long q2), (.long q3)] below meth c s₁ [] 0 0 := Stand.of_body Bd
  have e0 : s₁.heap = h0 := by rw [← hh, Bd.state]; rfl
  have N0 := Fr.nil n0
  have K0 : Steps p.tables e below (s₁.setTop (entryFrame m #[(.int p0), (.int p1), (.long q2), (.long q3)] maxLocals)) (s₁.setTop (mkF m 0 #[.val (.int p0), .val (.int p1), .val (.long q2), .second, .val (.long q3), .second, .unset, .unset, .unset, .unset, .unset, .unset, .unset] [])) := castTop (ef_0 m p0 p1 q2 q3) (Steps.refl _)
  obtain ⟨T1, h1, X1, e1, E1, A1, D1, -, st1⟩ := newO X0 hx hZ hown (hw _ (List.mem_of_getElem? (i := 0) rfl)) (hw _ (List.mem_of_getElem? (i := 1) rfl)) (hw _ (List.mem_of_getElem? (i := 2) rfl)) e0 (g := (mkF m 0 #[.val (.int p0), .val (.int p1), .val (.long q2), .second, .val (.long q3), .second, .unset, .unset, .unset, .unset, .unset, .unset, .unset] [])) rfl (hb hby at_0) (by decide) (by decide)
  obtain ⟨b1, g1⟩ : ∃ z, z = h0.size := ⟨_, rfl⟩
  rw [← g1] at A1 D1 st1
  have ge_b1 : n0 ≤ b1 := Nat.le_trans Z0 (Nat.le_of_eq g1.symm)
  have K2 : Steps p.tables e below _ (T1.setTop (mkF m 3 #[.val (.int p0), .val (.int p1), .val (.long q2), .second, .val (.long q3), .second, .unset, .unset, .unset, .unset, .unset, .unset, .unset] [(.ref b1)])) := K0.trans (st1 _ (Steps.refl _))
  have F1_froms : Fld Z h1 b1 "com/example/spanfold/spanfold/RangeList" "froms" "[J" .null := D1 (Or.inl (hw _ (List.mem_of_getElem? (i := 11) rfl))) (ty := (.array .long)) (by decide)
  have F1_tos : Fld Z h1 b1 "com/example/spanfold/spanfold/RangeList" "tos" "[J" .null := D1 (Or.inl (hw _ (List.mem_of_getElem? (i := 13) rfl))) (ty := (.array .long)) (by decide)
  have F1_ends : Fld Z h1 b1 "com/example/spanfold/spanfold/RangeList" "ends" "[B" .null := D1 (Or.inl (hw _ (List.mem_of_getElem? (i := 16) rfl))) (ty := (.array .byte)) (by decide)
  have F1_size : Fld Z h1 b1 "com/example/spanfold/spanfold/RangeList" "size" "I" (.int (0 : Int32)) := D1 (Or.inl (hw _ (List.mem_of_getElem? (i := 23) rfl))) (ty := .int) (by decide)
  have K3 : Steps p.tables e below _ (T1.setTop (mkF m 7 #[.val (.int p0), .val (.int p1), .val (.long q2), .second, .val (.long q3), .second, .unset, .unset, .unset, .unset, .unset, .unset, .unset] [(.int (p0 &&& (3 : Int32))), (.ref b1), (.ref b1)])) := K2.trans (by
    show Steps p.tables e below (T1.setTop (mkF m 3 #[.val (.int p0), .val (.int p1), .val (.long q2), .second, .val (.long q3), .second, .unset, .unset, .unset, .unset, .unset, .unset, .unset] [(.ref b1)])) _
    refine XS.dup X1.here hx rfl (hb hby at_3) rfl rfl ?_
    show Steps p.tables e below (T1.setTop (mkF m 4 #[.val (.int p0), .val (.int p1), .val (.long q2), .second, .val (.long q3), .second, .unset, .unset, .unset, .unset, .unset, .unset, .unset] [(.ref b1), (.ref b1)])) _
    refine XS.iloadN X1.here hx rfl (hb hby at_4) rfl ?_
    show Steps p.tables e below (T1.setTop (mkF m 5 #[.val (.int p0), .val (.int p1), .val (.long q2), .second, .val (.long q3), .second, .unset, .unset, .unset, .unset, .unset, .unset, .unset] [(.int p0), (.ref b1), (.ref b1)])) _
    refine XS.iconst X1.here hx rfl (hb hby at_5) ?_
    show Steps p.tables e below (T1.setTop (mkF m 6 #[.val (.int p0), .val (.int p1), .val (.long q2), .second, .val (.long q3), .second, .unset, .unset, .unset, .unset, .unset, .unset, .unset] [(.int (3 : Int32)), (.int p0), (.ref b1), (.ref b1)])) _
    refine XS.iand X1.here hx rfl (hb hby at_6) rfl ?_
    show Steps p.tables e below (T1.setTop (mkF m 7 #[.val (.int p0), .val (.int p1), .val (.long q2), .second, .val (.long q3), .second, .unset, .unset, .unset, .unset, .unset, .unset, .unset] [(.int (p0 &&& (3 : Int32))), (.ref b1), (.ref b1)])) _
    exact Steps.refl _)
  rcases own_and3 p0 with hcap | hcap | hcap | hcap
  · rw [hcap] at K3
    have Z_4 : n0 ≤ h1.size := (Nat.le_trans Z0 E1.1)
    obtain ⟨_, _, ⟨T5, L5, k5, n5⟩, -, X5, ⟨Lc5, hQ5, l5, y5, z5⟩, st5⟩ := X1.specialBack hx (y := (⟨"com/example/spanfold/spanfold/RangeList", "<init>", "(I)V"⟩ : MethodName)) rfl hown (mvT hZ (hw _ (List.mem_of_getElem? (i := 3) rfl))) (mvT hZ (hw _ (List.mem_of_getElem? (i := 4) rfl))) (mvT hZ (hw _ (List.mem_of_getElem? (i := 5) rfl))) (by decide) (backOf (W := 1) (rm1 l Z a0 hw [] b1 (0 : Int32) (0 : Int32) .null .null .null h1 n0 Z_4 A1 F1_size ge_b1 (by decide) F1_froms F1_tos F1_ends) hZ (hw _ (List.mem_of_getElem? (i := 5) rfl)) (hw _ (List.mem_of_getElem? (i := 2) rfl)) (by decide) (by decide)) (g := (mkF m 7 #[.val (.int p0), .val (.int p1), .val (.long q2), .second, .val (.long q3), .second, .unset, .unset, .unset, .unset, .unset, .unset, .unset] [(.int (0 : Int32)), (.ref b1), (.ref b1)])) rfl (by rw [hml]; rfl) K3 (a := b1) (argsL := [(.int (0 : Int32))]) (rest := [(.ref b1)]) (lenOf pd_4 rfl) rfl (by show 2 * 0 + _ ≤ _; exact Nat.le_of_eq rfl) (hb hby at_7) (fun _ _ => ⟨rfl, e1, (by decide : 1 + 3 ≤ _), (by decide : 4 + 9 ≤ _)⟩)
    dsimp only [Pt.U, Pt.locs, Pt.cells, Pt.slots] at X5 l5 y5 z5 st5 hQ5
    subst l5 y5 z5
    obtain ⟨b5_b5, b5_b12, b5_b23, k5_5, k12_5, k23_5, rfl, N5, Kp5, Q5_0, Q5_1, Q5_2, Q5_3, Q5_4, Q5_5, Q5_6, Q5_7, Q5_8, Q5_9, Q5_10, sz5_b5, sz5_b12, sz5_b23, ne5_14, ne5_15, ne5_16⟩ := hQ5
    have ne_b1_b5_b5 : b1 ≠ b5_b5 := Nat.ne_of_lt (Nat.lt_of_lt_of_le A1.lt sz5_b5)
    have ge_b5_b5 : n0 ≤ b5_b5 := Nat.le_trans Z_4 sz5_b5
    have ne_b1_b5_b12 : b1 ≠ b5_b12 := Nat.ne_of_lt (Nat.lt_of_lt_of_le A1.lt sz5_b12)
    have ge_b5_b12 : n0 ≤ b5_b12 := Nat.le_trans Z_4 sz5_b12
    have ne_b1_b5_b23 : b1 ≠ b5_b23 := Nat.ne_of_lt (Nat.lt_of_lt_of_le A1.lt sz5_b23)
    have ge_b5_b23 : n0 ≤ b5_b23 := Nat.le_trans Z_4 sz5_b23
    have N5' := Fr.app N0 N5
    have K6 : Steps p.tables e below _ (T5.setTop (mkF m 10 #[.val (.int p0), .val (.int p1), .val (.long q2), .second, .val (.long q3), .second, .unset, .unset, .unset, .unset, .unset, .unset, .unset] [(.ref b1)])) := st5
    have K7 : Steps p.tables e below _ (T5.setTop (mkF m 15 #[.val (.int p0), .val (.int p1), .val (.long q2), .second, .val (.long q3), .second, .val (.ref b1), .unset, .unset, .unset, .unset, .unset, .unset] [(.int (p1 &&& (1 : Int32)))])) := K6.trans (by
      show Steps p.tables e below (T5.setTop (mkF m 10 #[.val (.int p0), .val (.int p1), .val (.long q2), .second, .val (.long q3), .second, .unset, .unset, .unset, .unset, .unset, .unset, .unset] [(.ref b1)])) _
      refine XS.astore X5.here hx rfl (hb hby at_10) rfl rfl (l' := #[.val (.int p0), .val (.int p1), .val (.long q2), .second, .val (.long q3), .second, .val (.ref b1), .unset, .unset, .unset, .unset, .unset, .unset]) rfl ?_
      show Steps p.tables e below (T5.setTop (mkF m 12 #[.val (.int p0), .val (.int p1), .val (.long q2), .second, .val (.long q3), .second, .val (.ref b1), .unset, .unset, .unset, .unset, .unset, .unset] [])) _
      refine XS.iloadN X5.here hx rfl (hb hby at_12) rfl ?_
      show Steps p.tables e below (T5.setTop (mkF m 13 #[.val (.int p0), .val (.int p1), .val (.long q2), .second, .val (.long q3), .second, .val (.ref b1), .unset, .unset, .unset, .unset, .unset, .unset] [(.int p1)])) _
      refine XS.iconst X5.here hx rfl (hb hby at_13) ?_
      show Steps p.tables e below (T5.setTop (mkF m 14 #[.val (.int p0), .val (.int p1), .val (.long q2), .second, .val (.long q3), .second, .val (.ref b1), .unset, .unset, .unset, .unset, .unset, .unset] [(.int (1 : Int32)), (.int p1)])) _
      refine XS.iand X5.here hx rfl (hb hby at_14) rfl ?_
      show Steps p.tables e below (T5.setTop (mkF m 15 #[.val (.int p0), .val (.int p1), .val (.long q2), .second, .val (.long q3), .second, .val (.ref b1), .unset, .unset, .unset, .unset, .unset, .unset] [(.int (p1 &&& (1 : Int32)))])) _
      exact Steps.refl _)
    obtain ⟨v8_0, hv8_0, S8⟩ : ∃ (v8_0 : Int32), (if (p1 &&& (1 : Int32)) = (0 : Int32) then (0 : Int32) else (1 : Int32)) = v8_0 ∧ Steps p.tables e below (T5.setTop (mkF m 15 #[.val (.int p0), .val (.int p1), .val (.long q2), .second, .val (.long q3), .second, .val (.ref b1), .unset, .unset, .unset, .unset, .unset, .unset] [(.int (p1 &&& (1 : Int32)))])) (T5.setTop (mkF m 23 #[.val (.int p0), .val (.int p1), .val (.long q2), .second, .val (.long q3), .second, .val (.ref b1), .unset, .unset, .unset, .unset, .unset, .unset] [(.int v8_0)])) := by
      have R8 : Steps p.tables e below (T5.setTop (mkF m 15 #[.val (.int p0), .val (.int p1), .val (.long q2), .second, .val (.long q3), .second, .val (.ref b1), .unset, .unset, .unset, .unset, .unset, .unset] [(.int (p1 &&& (1 : Int32)))])) (T5.setTop (mkF m 15 #[.val (.int p0), .val (.int p1), .val (.long q2), .second, .val (.long q3), .second, .val (.ref b1), .unset, .unset, .unset, .unset, .unset, .unset] [(.int (p1 &&& (1 : Int32)))])) := Steps.refl _
      by_cases hc15 : (p1 &&& (1 : Int32)) = (0 : Int32)
      · have K9 : Steps p.tables e below _ (T5.setTop (mkF m 23 #[.val (.int p0), .val (.int p1), .val (.long q2), .second, .val (.long q3), .second, .val (.ref b1), .unset, .unset, .unset, .unset, .unset, .unset] [(.int (0 : Int32))])) := R8.trans (by
          show Steps p.tables e below (T5.setTop (mkF m 15 #[.val (.int p0), .val (.int p1), .val (.long q2), .second, .val (.long q3), .second, .val (.ref b1), .unset, .unset, .unset, .unset, .unset, .unset] [(.int (p1 &&& (1 : Int32)))])) _
          refine XS.ifYes X5.here hx rfl (pc0 := 15) (pc' := 22) rfl (hb hby at_15) rfl ((if0 _ _).trans (teq hc15).1) (by decide) (by decide) ?_
          show Steps p.tables e below (T5.setTop (mkF m 22 #[.val (.int p0), .val (.int p1), .val (.long q2), .second, .val (.long q3), .second, .val (.ref b1), .unset, .unset, .unset, .unset, .unset, .unset] [])) _
          refine XS.iconst X5.here hx rfl (hb hby at_22) ?_
          show Steps p.tables e below (T5.setTop (mkF m 23 #[.val (.int p0), .val (.int p1), .val (.long q2), .second, .val (.long q3), .second, .val (.ref b1), .unset, .unset, .unset, .unset, .unset, .unset] [(.int (0 : Int32))])) _
          exact Steps.refl _)
        exact ⟨(0 : Int32), (by rw [if_pos hc15]), K9⟩
      · have K10 : Steps p.tables e below _ (T5.setTop (mkF m 23 #[.val (.int p0), .val (.int p1), .val (.long q2), .second, .val (.long q3), .second, .val (.ref b1), .unset, .unset, .unset, .unset, .unset, .unset] [(.int (1 : Int32))])) := R8.trans (by
          show Steps p.tables e below (T5.setTop (mkF m 15 #[.val (.int p0), .val (.int p1), .val (.long q2), .second, .val (.long q3), .second, .val (.ref b1), .unset, .unset, .unset, .unset, .unset, .unset] [(.int (p1 &&& (1 : Int32)))])) _
          refine XS.ifNo X5.here hx rfl (hb hby at_15) rfl ((if0 _ _).trans (feq hc15).1) ?_
          show Steps p.tables e below (T5.setTop (mkF m 18 #[.val (.int p0), .val (.int p1), .val (.long q2), .second, .val (.long q3), .second, .val (.ref b1), .unset, .unset, .unset, .unset, .unset, .unset] [])) _
          refine XS.iconst X5.here hx rfl (hb hby at_18) ?_
          show Steps p.tables e below (T5.setTop (mkF m 19 #[.val (.int p0), .val (.int p1), .val (.long q2), .second, .val (.long q3), .second, .val (.ref b1), .unset, .unset, .unset, .unset, .unset, .unset] [(.int (1 : Int32))])) _
          refine XS.goto X5.here hx rfl (pc0 := 19) (pc' := 23) rfl (hb hby at_19) (by decide) (by decide) ?_
          show Steps p.tables e below (T5.setTop (mkF m 23 #[.val (.int p0), .val (.int p1), .val (.long q2), .second, .val (.long q3), .second, .val (.ref b1), .unset, .unset, .unset, .unset, .unset, .unset] [(.int (1 : Int32))])) _
          exact Steps.refl _)
        exact ⟨(1 : Int32), (by rw [if_neg hc15]), K10⟩
    have K11 := K7.trans S8
    have K12 : Steps p.tables e below _ (T5.setTop (mkF m 28 #[.val (.int p0), .val (.int p1), .val (.long q2), .second, .val (.long q3), .second, .val (.ref b1), .val (.int v8_0), .unset, .unset, .unset, .unset, .unset] [(.int (p1 &&& (2 : Int32)))])) := K11.trans (by
      show Steps p.tables e below (T5.setTop (mkF m 23 #[.val (.int p0), .val (.int p1), .val (.long q2), .second, .val (.long q3), .second, .val (.ref b1), .unset, .unset, .unset, .unset, .unset, .unset] [(.int v8_0)])) _
      refine XS.istore X5.here hx rfl (hb hby at_23) rfl (l' := #[.val (.int p0), .val (.int p1), .val (.long q2), .second, .val (.long q3), .second, .val (.ref b1), .val (.int v8_0), .unset, .unset, .unset, .unset, .unset]) rfl ?_
      show Steps p.tables e below (T5.setTop (mkF m 25 #[.val (.int p0), .val (.int p1), .val (.long q2), .second, .val (.long q3), .second, .val (.ref b1), .val (.int v8_0), .unset, .unset, .unset, .unset, .unset] [])) _
      refine XS.iloadN X5.here hx rfl (hb hby at_25) rfl ?_
      show Steps p.tables e below (T5.setTop (mkF m 26 #[.val (.int p0), .val (.int p1), .val (.long q2), .second, .val (.long q3), .second, .val (.ref b1), .val (.int v8_0), .unset, .unset, .unset, .unset, .unset] [(.int p1)])) _
      refine XS.iconst X5.here hx rfl (hb hby at_26) ?_
      show Steps p.tables e below (T5.setTop (mkF m 27 #[.val (.int p0), .val (.int p1), .val (.long q2), .second, .val (.long q3), .second, .val (.ref b1), .val (.int v8_0), .unset, .unset, .unset, .unset, .unset] [(.int (2 : Int32)), (.int p1)])) _
      refine XS.iand X5.here hx rfl (hb hby at_27) rfl ?_
      show Steps p.tables e below (T5.setTop (mkF m 28 #[.val (.int p0), .val (.int p1), .val (.long q2), .second, .val (.long q3), .second, .val (.ref b1), .val (.int v8_0), .unset, .unset, .unset, .unset, .unset] [(.int (p1 &&& (2 : Int32)))])) _
      exact Steps.refl _)
    obtain ⟨v13_0, hv13_0, S13⟩ : ∃ (v13_0 : Int32), (if (p1 &&& (2 : Int32)) = (0 : Int32) then (0 : Int32) else (1 : Int32)) = v13_0 ∧ Steps p.tables e below (T5.setTop (mkF m 28 #[.val (.int p0), .val (.int p1), .val (.long q2), .second, .val (.long q3), .second, .val (.ref b1), .val (.int v8_0), .unset, .unset, .unset, .unset, .unset] [(.int (p1 &&& (2 : Int32)))])) (T5.setTop (mkF m 36 #[.val (.int p0), .val (.int p1), .val (.long q2), .second, .val (.long q3), .second, .val (.ref b1), .val (.int v8_0), .unset, .unset, .unset, .unset, .unset] [(.int v13_0)])) := by
      have R13 : Steps p.tables e below (T5.setTop (mkF m 28 #[.val (.int p0), .val (.int p1), .val (.long q2), .second, .val (.long q3), .second, .val (.ref b1), .val (.int v8_0), .unset, .unset, .unset, .unset, .unset] [(.int (p1 &&& (2 : Int32)))])) (T5.setTop (mkF m 28 #[.val (.int p0), .val (.int p1), .val (.long q2), .second, .val (.long q3), .second, .val (.ref b1), .val (.int v8_0), .unset, .unset, .unset, .unset, .unset] [(.int (p1 &&& (2 : Int32)))])) := Steps.refl _
      by_cases hc28 : (p1 &&& (2 : Int32)) = (0 : Int32)
      · have K14 : Steps p.tables e below _ (T5.setTop (mkF m 36 #[.val (.int p0), .val (.int p1), .val (.long q2), .second, .val (.long q3), .second, .val (.ref b1), .val (.int v8_0), .unset, .unset, .unset, .unset, .unset] [(.int (0 : Int32))])) := R13.trans (by
          show Steps p.tables e below (T5.setTop (mkF m 28 #[.val (.int p0), .val (.int p1), .val (.long q2), .second, .val (.long q3), .second, .val (.ref b1), .val (.int v8_0), .unset, .unset, .unset, .unset, .unset] [(.int (p1 &&& (2 : Int32)))])) _
          refine XS.ifYes X5.here hx rfl (pc0 := 28) (pc' := 35) rfl (hb hby at_28) rfl ((if0 _ _).trans (teq hc28).1) (by decide) (by decide) ?_
          show Steps p.tables e below (T5.setTop (mkF m 35 #[.val (.int p0), .val (.int p1), .val (.long q2), .second, .val (.long q3), .second, .val (.ref b1), .val (.int v8_0), .unset, .unset, .unset, .unset, .unset] [])) _
          refine XS.iconst X5.here hx rfl (hb hby at_35) ?_
          show Steps p.tables e below (T5.setTop (mkF m 36 #[.val (.int p0), .val (.int p1), .val (.long q2), .second, .val (.long q3), .second, .val (.ref b1), .val (.int v8_0), .unset, .unset, .unset, .unset, .unset] [(.int (0 : Int32))])) _
          exact Steps.refl _)
        exact ⟨(0 : Int32), (by rw [if_pos hc28]), K14⟩
      · have K15 : Steps p.tables e below _ (T5.setTop (mkF m 36 #[.val (.int p0), .val (.int p1), .val (.long q2), .second, .val (.long q3), .second, .val (.ref b1), .val (.int v8_0), .unset, .unset, .unset, .unset, .unset] [(.int (1 : Int32))])) := R13.trans (by
          show Steps p.tables e below (T5.setTop (mkF m 28 #[.val (.int p0), .val (.int p1), .val (.long q2), .second, .val (.long q3), .second, .val (.ref b1), .val (.int v8_0), .unset, .unset, .unset, .unset, .unset] [(.int (p1 &&& (2 : Int32)))])) _
          refine XS.ifNo X5.here hx rfl (hb hby at_28) rfl ((if0 _ _).trans (feq hc28).1) ?_
          show Steps p.tables e below (T5.setTop (mkF m 31 #[.val (.int p0), .val (.int p1), .val (.long q2), .second, .val (.long q3), .second, .val (.ref b1), .val (.int v8_0), .unset, .unset, .unset, .unset, .unset] [])) _
          refine XS.iconst X5.here hx rfl (hb hby at_31) ?_
          show Steps p.tables e below (T5.setTop (mkF m 32 #[.val (.int p0), .val (.int p1), .val (.long q2), .second, .val (.long q3), .second, .val (.ref b1), .val (.int v8_0), .unset, .unset, .unset, .unset, .unset] [(.int (1 : Int32))])) _
          refine XS.goto X5.here hx rfl (pc0 := 32) (pc' := 36) rfl (hb hby at_32) (by decide) (by decide) ?_
          show Steps p.tables e below (T5.setTop (mkF m 36 #[.val (.int p0), .val (.int p1), .val (.long q2), .second, .val (.long q3), .second, .val (.ref b1), .val (.int v8_0), .unset, .unset, .unset, .unset, .unset] [(.int (1 : Int32))])) _
          exact Steps.refl _)
        exact ⟨(1 : Int32), (by rw [if_neg hc28]), K15⟩
    have K16 := K12.trans S13
    have K17 : Steps p.tables e below _ (T5.setTop (mkF m 41 #[.val (.int p0), .val (.int p1), .val (.long q2), .second, .val (.long q3), .second, .val (.ref b1), .val (.int v8_0), .val (.int v13_0), .unset, .unset, .unset, .unset] [(.int (p1 &&& (4 : Int32)))])) := K16.trans (by
      show Steps p.tables e below (T5.setTop (mkF m 36 #[.val (.int p0), .val (.int p1), .val (.long q2), .second, .val (.long q3), .second, .val (.ref b1), .val (.int v8_0), .unset, .unset, .unset, .unset, .unset] [(.int v13_0)])) _
      refine XS.istore X5.here hx rfl (hb hby at_36) rfl (l' := #[.val (.int p0), .val (.int p1), .val (.long q2), .second, .val (.long q3), .second, .val (.ref b1), .val (.int v8_0), .val (.int v13_0), .unset, .unset, .unset, .unset]) rfl ?_
      show Steps p.tables e below (T5.setTop (mkF m 38 #[.val (.int p0), .val (.int p1), .val (.long q2), .second, .val (.long q3), .second, .val (.ref b1), .val (.int v8_0), .val (.int v13_0), .unset, .unset, .unset, .unset] [])) _
      refine XS.iloadN X5.here hx rfl (hb hby at_38) rfl ?_
      show Steps p.tables e below (T5.setTop (mkF m 39 #[.val (.int p0), .val (.int p1), .val (.long q2), .second, .val (.long q3), .second, .val (.ref b1), .val (.int v8_0), .val (.int v13_0), .unset, .unset, .unset, .unset] [(.int p1)])) _
      refine XS.iconst X5.here hx rfl (hb hby at_39) ?_
      show Steps p.tables e below (T5.setTop (mkF m 40 #[.val (.int p0), .val (.int p1), .val (.long q2), .second, .val (.long q3), .second, .val (.ref b1), .val (.int v8_0), .val (.int v13_0), .unset, .unset, .unset, .unset] [(.int (4 : Int32)), (.int p1)])) _
      refine XS.iand X5.here hx rfl (hb hby at_40) rfl ?_
      show Steps p.tables e below (T5.setTop (mkF m 41 #[.val (.int p0), .val (.int p1), .val (.long q2), .second, .val (.long q3), .second, .val (.ref b1), .val (.int v8_0), .val (.int v13_0), .unset, .unset, .unset, .unset] [(.int (p1 &&& (4 : Int32)))])) _
      exact Steps.refl _)
    obtain ⟨v18_0, hv18_0, S18⟩ : ∃ (v18_0 : Int32), (if (p1 &&& (4 : Int32)) = (0 : Int32) then (0 : Int32) else (1 : Int32)) = v18_0 ∧ Steps p.tables e below (T5.setTop (mkF m 41 #[.val (.int p0), .val (.int p1), .val (.long q2), .second, .val (.long q3), .second, .val (.ref b1), .val (.int v8_0), .val (.int v13_0), .unset, .unset, .unset, .unset] [(.int (p1 &&& (4 : Int32)))])) (T5.setTop (mkF m 49 #[.val (.int p0), .val (.int p1), .val (.long q2), .second, .val (.long q3), .second, .val (.ref b1), .val (.int v8_0), .val (.int v13_0), .unset, .unset, .unset, .unset] [(.int v18_0)])) := by
      have R18 : Steps p.tables e below (T5.setTop (mkF m 41 #[.val (.int p0), .val (.int p1), .val (.long q2), .second, .val (.long q3), .second, .val (.ref b1), .val (.int v8_0), .val (.int v13_0), .unset, .unset, .unset, .unset] [(.int (p1 &&& (4 : Int32)))])) (T5.setTop (mkF m 41 #[.val (.int p0), .val (.int p1), .val (.long q2), .second, .val (.long q3), .second, .val (.ref b1), .val (.int v8_0), .val (.int v13_0), .unset, .unset, .unset, .unset] [(.int (p1 &&& (4 : Int32)))])) := Steps.refl _
      by_cases hc41 : (p1 &&& (4 : Int32)) = (0 : Int32)
      · have K19 : Steps p.tables e below _ (T5.setTop (mkF m 49 #[.val (.int p0), .val (.int p1), .val (.long q2), .second, .val (.long q3), .second, .val (.ref b1), .val (.int v8_0), .val (.int v13_0), .unset, .unset, .unset, .unset] [(.int (0 : Int32))])) := R18.trans (by
          show Steps p.tables e below (T5.setTop (mkF m 41 #[.val (.int p0), .val (.int p1), .val (.long q2), .second, .val (.long q3), .second, .val (.ref b1), .val (.int v8_0), .val (.int v13_0), .unset, .unset, .unset, .unset] [(.int (p1 &&& (4 : Int32)))])) _
          refine XS.ifYes X5.here hx rfl (pc0 := 41) (pc' := 48) rfl (hb hby at_41) rfl ((if0 _ _).trans (teq hc41).1) (by decide) (by decide) ?_
          show Steps p.tables e below (T5.setTop (mkF m 48 #[.val (.int p0), .val (.int p1), .val (.long q2), .second, .val (.long q3), .second, .val (.ref b1), .val (.int v8_0), .val (.int v13_0), .unset, .unset, .unset, .unset] [])) _
          refine XS.iconst X5.here hx rfl (hb hby at_48) ?_
          show Steps p.tables e below (T5.setTop (mkF m 49 #[.val (.int p0), .val (.int p1), .val (.long q2), .second, .val (.long q3), .second, .val (.ref b1), .val (.int v8_0), .val (.int v13_0), .unset, .unset, .unset, .unset] [(.int (0 : Int32))])) _
          exact Steps.refl _)
        exact ⟨(0 : Int32), (by rw [if_pos hc41]), K19⟩
      · have K20 : Steps p.tables e below _ (T5.setTop (mkF m 49 #[.val (.int p0), .val (.int p1), .val (.long q2), .second, .val (.long q3), .second, .val (.ref b1), .val (.int v8_0), .val (.int v13_0), .unset, .unset, .unset, .unset] [(.int (1 : Int32))])) := R18.trans (by
          show Steps p.tables e below (T5.setTop (mkF m 41 #[.val (.int p0), .val (.int p1), .val (.long q2), .second, .val (.long q3), .second, .val (.ref b1), .val (.int v8_0), .val (.int v13_0), .unset, .unset, .unset, .unset] [(.int (p1 &&& (4 : Int32)))])) _
          refine XS.ifNo X5.here hx rfl (hb hby at_41) rfl ((if0 _ _).trans (feq hc41).1) ?_
          show Steps p.tables e below (T5.setTop (mkF m 44 #[.val (.int p0), .val (.int p1), .val (.long q2), .second, .val (.long q3), .second, .val (.ref b1), .val (.int v8_0), .val (.int v13_0), .unset, .unset, .unset, .unset] [])) _
          refine XS.iconst X5.here hx rfl (hb hby at_44) ?_
          show Steps p.tables e below (T5.setTop (mkF m 45 #[.val (.int p0), .val (.int p1), .val (.long q2), .second, .val (.long q3), .second, .val (.ref b1), .val (.int v8_0), .val (.int v13_0), .unset, .unset, .unset, .unset] [(.int (1 : Int32))])) _
          refine XS.goto X5.here hx rfl (pc0 := 45) (pc' := 49) rfl (hb hby at_45) (by decide) (by decide) ?_
          show Steps p.tables e below (T5.setTop (mkF m 49 #[.val (.int p0), .val (.int p1), .val (.long q2), .second, .val (.long q3), .second, .val (.ref b1), .val (.int v8_0), .val (.int v13_0), .unset, .unset, .unset, .unset] [(.int (1 : Int32))])) _
          exact Steps.refl _)
        exact ⟨(1 : Int32), (by rw [if_neg hc41]), K20⟩
    have K21 := K17.trans S18
    have K22 : Steps p.tables e below _ (T5.setTop (mkF m 55 #[.val (.int p0), .val (.int p1), .val (.long q2), .second, .val (.long q3), .second, .val (.ref b1), .val (.int v8_0), .val (.int v13_0), .val (.int v18_0), .unset, .unset, .unset] [(.int (p1 &&& (8 : Int32)))])) := K21.trans (by
      show Steps p.tables e below (T5.setTop (mkF m 49 #[.val (.int p0), .val (.int p1), .val (.long q2), .second, .val (.long q3), .second, .val (.ref b1), .val (.int v8_0), .val (.int v13_0), .unset, .unset, .unset, .unset] [(.int v18_0)])) _
      refine XS.istore X5.here hx rfl (hb hby at_49) rfl (l' := #[.val (.int p0), .val (.int p1), .val (.long q2), .second, .val (.long q3), .second, .val (.ref b1), .val (.int v8_0), .val (.int v13_0), .val (.int v18_0), .unset, .unset, .unset]) rfl ?_
      show Steps p.tables e below (T5.setTop (mkF m 51 #[.val (.int p0), .val (.int p1), .val (.long q2), .second, .val (.long q3), .second, .val (.ref b1), .val (.int v8_0), .val (.int v13_0), .val (.int v18_0), .unset, .unset, .unset] [])) _
      refine XS.iloadN X5.here hx rfl (hb hby at_51) rfl ?_
      show Steps p.tables e below (T5.setTop (mkF m 52 #[.val (.int p0), .val (.int p1), .val (.long q2), .second, .val (.long q3), .second, .val (.ref b1), .val (.int v8_0), .val (.int v13_0), .val (.int v18_0), .unset, .unset, .unset] [(.int p1)])) _
      refine XS.bipush X5.here hx rfl (hb hby at_52) ?_
      show Steps p.tables e below (T5.setTop (mkF m 54 #[.val (.int p0), .val (.int p1), .val (.long q2), .second, .val (.long q3), .second, .val (.ref b1), .val (.int v8_0), .val (.int v13_0), .val (.int v18_0), .unset, .unset, .unset] [(.int (8 : Int32)), (.int p1)])) _
      refine XS.iand X5.here hx rfl (hb hby at_54) rfl ?_
      show Steps p.tables e below (T5.setTop (mkF m 55 #[.val (.int p0), .val (.int p1), .val (.long q2), .second, .val (.long q3), .second, .val (.ref b1), .val (.int v8_0), .val (.int v13_0), .val (.int v18_0), .unset, .unset, .unset] [(.int (p1 &&& (8 : Int32)))])) _
      exact Steps.refl _)
    obtain ⟨v23_0, hv23_0, S23⟩ : ∃ (v23_0 : Int32), (if (p1 &&& (8 : Int32)) = (0 : Int32) then (0 : Int32) else (1 : Int32)) = v23_0 ∧ Steps p.tables e below (T5.setTop (mkF m 55 #[.val (.int p0), .val (.int p1), .val (.long q2), .second, .val (.long q3), .second, .val (.ref b1), .val (.int v8_0), .val (.int v13_0), .val (.int v18_0), .unset, .unset, .unset] [(.int (p1 &&& (8 : Int32)))])) (T5.setTop (mkF m 63 #[.val (.int p0), .val (.int p1), .val (.long q2), .second, .val (.long q3), .second, .val (.ref b1), .val (.int v8_0), .val (.int v13_0), .val (.int v18_0), .unset, .unset, .unset] [(.int v23_0)])) := by
      have R23 : Steps p.tables e below (T5.setTop (mkF m 55 #[.val (.int p0), .val (.int p1), .val (.long q2), .second, .val (.long q3), .second, .val (.ref b1), .val (.int v8_0), .val (.int v13_0), .val (.int v18_0), .unset, .unset, .unset] [(.int (p1 &&& (8 : Int32)))])) (T5.setTop (mkF m 55 #[.val (.int p0), .val (.int p1), .val (.long q2), .second, .val (.long q3), .second, .val (.ref b1), .val (.int v8_0), .val (.int v13_0), .val (.int v18_0), .unset, .unset, .unset] [(.int (p1 &&& (8 : Int32)))])) := Steps.refl _
      by_cases hc55 : (p1 &&& (8 : Int32)) = (0 : Int32)
      · have K24 : Steps p.tables e below _ (T5.setTop (mkF m 63 #[.val (.int p0), .val (.int p1), .val (.long q2), .second, .val (.long q3), .second, .val (.ref b1), .val (.int v8_0), .val (.int v13_0), .val (.int v18_0), .unset, .unset, .unset] [(.int (0 : Int32))])) := R23.trans (by
          show Steps p.tables e below (T5.setTop (mkF m 55 #[.val (.int p0), .val (.int p1), .val (.long q2), .second, .val (.long q3), .second, .val (.ref b1), .val (.int v8_0), .val (.int v13_0), .val (.int v18_0), .unset, .unset, .unset] [(.int (p1 &&& (8 : Int32)))])) _
          refine XS.ifYes X5.here hx rfl (pc0 := 55) (pc' := 62) rfl (hb hby at_55) rfl ((if0 _ _).trans (teq hc55).1) (by decide) (by decide) ?_
          show Steps p.tables e below (T5.setTop (mkF m 62 #[.val (.int p0), .val (.int p1), .val (.long q2), .second, .val (.long q3), .second, .val (.ref b1), .val (.int v8_0), .val (.int v13_0), .val (.int v18_0), .unset, .unset, .unset] [])) _
          refine XS.iconst X5.here hx rfl (hb hby at_62) ?_
          show Steps p.tables e below (T5.setTop (mkF m 63 #[.val (.int p0), .val (.int p1), .val (.long q2), .second, .val (.long q3), .second, .val (.ref b1), .val (.int v8_0), .val (.int v13_0), .val (.int v18_0), .unset, .unset, .unset] [(.int (0 : Int32))])) _
          exact Steps.refl _)
        exact ⟨(0 : Int32), (by rw [if_pos hc55]), K24⟩
      · have K25 : Steps p.tables e below _ (T5.setTop (mkF m 63 #[.val (.int p0), .val (.int p1), .val (.long q2), .second, .val (.long q3), .second, .val (.ref b1), .val (.int v8_0), .val (.int v13_0), .val (.int v18_0), .unset, .unset, .unset] [(.int (1 : Int32))])) := R23.trans (by
          show Steps p.tables e below (T5.setTop (mkF m 55 #[.val (.int p0), .val (.int p1), .val (.long q2), .second, .val (.long q3), .second, .val (.ref b1), .val (.int v8_0), .val (.int v13_0), .val (.int v18_0), .unset, .unset, .unset] [(.int (p1 &&& (8 : Int32)))])) _
          refine XS.ifNo X5.here hx rfl (hb hby at_55) rfl ((if0 _ _).trans (feq hc55).1) ?_
          show Steps p.tables e below (T5.setTop (mkF m 58 #[.val (.int p0), .val (.int p1), .val (.long q2), .second, .val (.long q3), .second, .val (.ref b1), .val (.int v8_0), .val (.int v13_0), .val (.int v18_0), .unset, .unset, .unset] [])) _
          refine XS.iconst X5.here hx rfl (hb hby at_58) ?_
          show Steps p.tables e below (T5.setTop (mkF m 59 #[.val (.int p0), .val (.int p1), .val (.long q2), .second, .val (.long q3), .second, .val (.ref b1), .val (.int v8_0), .val (.int v13_0), .val (.int v18_0), .unset, .unset, .unset] [(.int (1 : Int32))])) _
          refine XS.goto X5.here hx rfl (pc0 := 59) (pc' := 63) rfl (hb hby at_59) (by decide) (by decide) ?_
          show Steps p.tables e below (T5.setTop (mkF m 63 #[.val (.int p0), .val (.int p1), .val (.long q2), .second, .val (.long q3), .second, .val (.ref b1), .val (.int v8_0), .val (.int v13_0), .val (.int v18_0), .unset, .unset, .unset] [(.int (1 : Int32))])) _
          exact Steps.refl _)
        exact ⟨(1 : Int32), (by rw [if_neg hc55]), K25⟩
    have K26 := K22.trans S23
    have K27 : Steps p.tables e below _ (T5.setTop (mkF m 69 #[.val (.int p0), .val (.int p1), .val (.long q2), .second, .val (.long q3), .second, .val (.ref b1), .val (.int v8_0), .val (.int v13_0), .val (.int v18_0), .val (.int v23_0), .unset, .unset] [(.int (p1 &&& (16 : Int32)))])) := K26.trans (by
      show Steps p.tables e below (T5.setTop (mkF m 63 #[.val (.int p0), .val (.int p1), .val (.long q2), .second, .val (.long q3), .second, .val (.ref b1), .val (.int v8_0), .val (.int v13_0), .val (.int v18_0), .unset, .unset, .unset] [(.int v23_0)])) _
      refine XS.istore X5.here hx rfl (hb hby at_63) rfl (l' := #[.val (.int p0), .val (.int p1), .val (.long q2), .second, .val (.long q3), .second, .val (.ref b1), .val (.int v8_0), .val (.int v13_0), .val (.int v18_0), .val (.int v23_0), .unset, .unset]) rfl ?_
      show Steps p.tables e below (T5.setTop (mkF m 65 #[.val (.int p0), .val (.int p1), .val (.long q2), .second, .val (.long q3), .second, .val (.ref b1), .val (.int v8_0), .val (.int v13_0), .val (.int v18_0), .val (.int v23_0), .unset, .unset] [])) _
      refine XS.iloadN X5.here hx rfl (hb hby at_65) rfl ?_
      show Steps p.tables e below (T5.setTop (mkF m 66 #[.val (.int p0), .val (.int p1), .val (.long q2), .second, .val (.long q3), .second, .val (.ref b1), .val (.int v8_0), .val (.int v13_0), .val (.int v18_0), .val (.int v23_0), .unset, .unset] [(.int p1)])) _
      refine XS.bipush X5.here hx rfl (hb hby at_66) ?_
      show Steps p.tables e below (T5.setTop (mkF m 68 #[.val (.int p0), .val (.int p1), .val (.long q2), .second, .val (.long q3), .second, .val (.ref b1), .val (.int v8_0), .val (.int v13_0), .val (.int v18_0), .val (.int v23_0), .unset, .unset] [(.int (16 : Int32)), (.int p1)])) _
      refine XS.iand X5.here hx rfl (hb hby at_68) rfl ?_
      show Steps p.tables e below (T5.setTop (mkF m 69 #[.val (.int p0), .val (.int p1), .val (.long q2), .second, .val (.long q3), .second, .val (.ref b1), .val (.int v8_0), .val (.int v13_0), .val (.int v18_0), .val (.int v23_0), .unset, .unset] [(.int (p1 &&& (16 : Int32)))])) _
      exact Steps.refl _)
    obtain ⟨v28_0, hv28_0, S28⟩ : ∃ (v28_0 : Int32), (if (p1 &&& (16 : Int32)) = (0 : Int32) then (0 : Int32) else (1 : Int32)) = v28_0 ∧ Steps p.tables e below (T5.setTop (mkF m 69 #[.val (.int p0), .val (.int p1), .val (.long q2), .second, .val (.long q3), .second, .val (.ref b1), .val (.int v8_0), .val (.int v13_0), .val (.int v18_0), .val (.int v23_0), .unset, .unset] [(.int (p1 &&& (16 : Int32)))])) (T5.setTop (mkF m 77 #[.val (.int p0), .val (.int p1), .val (.long q2), .second, .val (.long q3), .second, .val (.ref b1), .val (.int v8_0), .val (.int v13_0), .val (.int v18_0), .val (.int v23_0), .unset, .unset] [(.int v28_0)])) := by
      have R28 : Steps p.tables e below (T5.setTop (mkF m 69 #[.val (.int p0), .val (.int p1), .val (.long q2), .second, .val (.long q3), .second, .val (.ref b1), .val (.int v8_0), .val (.int v13_0), .val (.int v18_0), .val (.int v23_0), .unset, .unset] [(.int (p1 &&& (16 : Int32)))])) (T5.setTop (mkF m 69 #[.val (.int p0), .val (.int p1), .val (.long q2), .second, .val (.long q3), .second, .val (.ref b1), .val (.int v8_0), .val (.int v13_0), .val (.int v18_0), .val (.int v23_0), .unset, .unset] [(.int (p1 &&& (16 : Int32)))])) := Steps.refl _
      by_cases hc69 : (p1 &&& (16 : Int32)) = (0 : Int32)
      · have K29 : Steps p.tables e below _ (T5.setTop (mkF m 77 #[.val (.int p0), .val (.int p1), .val (.long q2), .second, .val (.long q3), .second, .val (.ref b1), .val (.int v8_0), .val (.int v13_0), .val (.int v18_0), .val (.int v23_0), .unset, .unset] [(.int (0 : Int32))])) := R28.trans (by
          show Steps p.tables e below (T5.setTop (mkF m 69 #[.val (.int p0), .val (.int p1), .val (.long q2), .second, .val (.long q3), .second, .val (.ref b1), .val (.int v8_0), .val (.int v13_0), .val (.int v18_0), .val (.int v23_0), .unset, .unset] [(.int (p1 &&& (16 : Int32)))])) _
          refine XS.ifYes X5.here hx rfl (pc0 := 69) (pc' := 76) rfl (hb hby at_69) rfl ((if0 _ _).trans (teq hc69).1) (by decide) (by decide) ?_
          show Steps p.tables e below (T5.setTop (mkF m 76 #[.val (.int p0), .val (.int p1), .val (.long q2), .second, .val (.long q3), .second, .val (.ref b1), .val (.int v8_0), .val (.int v13_0), .val (.int v18_0), .val (.int v23_0), .unset, .unset] [])) _
          refine XS.iconst X5.here hx rfl (hb hby at_76) ?_
          show Steps p.tables e below (T5.setTop (mkF m 77 #[.val (.int p0), .val (.int p1), .val (.long q2), .second, .val (.long q3), .second, .val (.ref b1), .val (.int v8_0), .val (.int v13_0), .val (.int v18_0), .val (.int v23_0), .unset, .unset] [(.int (0 : Int32))])) _
          exact Steps.refl _)
        exact ⟨(0 : Int32), (by rw [if_pos hc69]), K29⟩
      · have K30 : Steps p.tables e below _ (T5.setTop (mkF m 77 #[.val (.int p0), .val (.int p1), .val (.long q2), .second, .val (.long q3), .second, .val (.ref b1), .val (.int v8_0), .val (.int v13_0), .val (.int v18_0), .val (.int v23_0), .unset, .unset] [(.int (1 : Int32))])) := R28.trans (by
          show Steps p.tables e below (T5.setTop (mkF m 69 #[.val (.int p0), .val (.int p1), .val (.long q2), .second, .val (.long q3), .second, .val (.ref b1), .val (.int v8_0), .val (.int v13_0), .val (.int v18_0), .val (.int v23_0), .unset, .unset] [(.int (p1 &&& (16 : Int32)))])) _
          refine XS.ifNo X5.here hx rfl (hb hby at_69) rfl ((if0 _ _).trans (feq hc69).1) ?_
          show Steps p.tables e below (T5.setTop (mkF m 72 #[.val (.int p0), .val (.int p1), .val (.long q2), .second, .val (.long q3), .second, .val (.ref b1), .val (.int v8_0), .val (.int v13_0), .val (.int v18_0), .val (.int v23_0), .unset, .unset] [])) _
          refine XS.iconst X5.here hx rfl (hb hby at_72) ?_
          show Steps p.tables e below (T5.setTop (mkF m 73 #[.val (.int p0), .val (.int p1), .val (.long q2), .second, .val (.long q3), .second, .val (.ref b1), .val (.int v8_0), .val (.int v13_0), .val (.int v18_0), .val (.int v23_0), .unset, .unset] [(.int (1 : Int32))])) _
          refine XS.goto X5.here hx rfl (pc0 := 73) (pc' := 77) rfl (hb hby at_73) (by decide) (by decide) ?_
          show Steps p.tables e below (T5.setTop (mkF m 77 #[.val (.int p0), .val (.int p1), .val (.long q2), .second, .val (.long q3), .second, .val (.ref b1), .val (.int v8_0), .val (.int v13_0), .val (.int v18_0), .val (.int v23_0), .unset, .unset] [(.int (1 : Int32))])) _
          exact Steps.refl _)
        exact ⟨(1 : Int32), (by rw [if_neg hc69]), K30⟩
    have K31 := K27.trans S28
    have K32 : Steps p.tables e below _ (T5.setTop (mkF m 83 #[.val (.int p0), .val (.int p1), .val (.long q2), .second, .val (.long q3), .second, .val (.ref b1), .val (.int v8_0), .val (.int v13_0), .val (.int v18_0), .val (.int v23_0), .val (.int v28_0), .unset] [(.int (p1 &&& (32 : Int32)))])) := K31.trans (by
      show Steps p.tables e below (T5.setTop (mkF m 77 #[.val (.int p0), .val (.int p1), .val (.long q2), .second, .val (.long q3), .second, .val (.ref b1), .val (.int v8_0), .val (.int v13_0), .val (.int v18_0), .val (.int v23_0), .unset, .unset] [(.int v28_0)])) _
      refine XS.istore X5.here hx rfl (hb hby at_77) rfl (l' := #[.val (.int p0), .val (.int p1), .val (.long q2), .second, .val (.long q3), .second, .val (.ref b1), .val (.int v8_0), .val (.int v13_0), .val (.int v18_0), .val (.int v23_0), .val (.int v28_0), .unset]) rfl ?_
      show Steps p.tables e below (T5.setTop (mkF m 79 #[.val (.int p0), .val (.int p1), .val (.long q2), .second, .val (.long q3), .second, .val (.ref b1), .val (.int v8_0), .val (.int v13_0), .val (.int v18_0), .val (.int v23_0), .val (.int v28_0), .unset] [])) _
      refine XS.iloadN X5.here hx rfl (hb hby at_79) rfl ?_
      show Steps p.tables e below (T5.setTop (mkF m 80 #[.val (.int p0), .val (.int p1), .val (.long q2), .second, .val (.long q3), .second, .val (.ref b1), .val (.int v8_0), .val (.int v13_0), .val (.int v18_0), .val (.int v23_0), .val (.int v28_0), .unset] [(.int p1)])) _
      refine XS.bipush X5.here hx rfl (hb hby at_80) ?_
      show Steps p.tables e below (T5.setTop (mkF m 82 #[.val (.int p0), .val (.int p1), .val (.long q2), .second, .val (.long q3), .second, .val (.ref b1), .val (.int v8_0), .val (.int v13_0), .val (.int v18_0), .val (.int v23_0), .val (.int v28_0), .unset] [(.int (32 : Int32)), (.int p1)])) _
      refine XS.iand X5.here hx rfl (hb hby at_82) rfl ?_
      show Steps p.tables e below (T5.setTop (mkF m 83 #[.val (.int p0), .val (.int p1), .val (.long q2), .second, .val (.long q3), .second, .val (.ref b1), .val (.int v8_0), .val (.int v13_0), .val (.int v18_0), .val (.int v23_0), .val (.int v28_0), .unset] [(.int (p1 &&& (32 : Int32)))])) _
      exact Steps.refl _)
    obtain ⟨v33_0, hv33_0, S33⟩ : ∃ (v33_0 : Int32), (if (p1 &&& (32 : Int32)) = (0 : Int32) then (0 : Int32) else (1 : Int32)) = v33_0 ∧ Steps p.tables e below (T5.setTop (mkF m 83 #[.val (.int p0), .val (.int p1), .val (.long q2), .second, .val (.long q3), .second, .val (.ref b1), .val (.int v8_0), .val (.int v13_0), .val (.int v18_0), .val (.int v23_0), .val (.int v28_0), .unset] [(.int (p1 &&& (32 : Int32)))])) (T5.setTop (mkF m 91 #[.val (.int p0), .val (.int p1), .val (.long q2), .second, .val (.long q3), .second, .val (.ref b1), .val (.int v8_0), .val (.int v13_0), .val (.int v18_0), .val (.int v23_0), .val (.int v28_0), .unset] [(.int v33_0)])) := by
      have R33 : Steps p.tables e below (T5.setTop (mkF m 83 #[.val (.int p0), .val (.int p1), .val (.long q2), .second, .val (.long q3), .second, .val (.ref b1), .val (.int v8_0), .val (.int v13_0), .val (.int v18_0), .val (.int v23_0), .val (.int v28_0), .unset] [(.int (p1 &&& (32 : Int32)))])) (T5.setTop (mkF m 83 #[.val (.int p0), .val (.int p1), .val (.long q2), .second, .val (.long q3), .second, .val (.ref b1), .val (.int v8_0), .val (.int v13_0), .val (.int v18_0), .val (.int v23_0), .val (.int v28_0), .unset] [(.int (p1 &&& (32 : Int32)))])) := Steps.refl _
      by_cases hc83 : (p1 &&& (32 : Int32)) = (0 : Int32)
      · have K34 : Steps p.tables e below _ (T5.setTop (mkF m 91 #[.val (.int p0), .val (.int p1), .val (.long q2), .second, .val (.long q3), .second, .val (.ref b1), .val (.int v8_0), .val (.int v13_0), .val (.int v18_0), .val (.int v23_0), .val (.int v28_0), .unset] [(.int (0 : Int32))])) := R33.trans (by
          show Steps p.tables e below (T5.setTop (mkF m 83 #[.val (.int p0), .val (.int p1), .val (.long q2), .second, .val (.long q3), .second, .val (.ref b1), .val (.int v8_0), .val (.int v13_0), .val (.int v18_0), .val (.int v23_0), .val (.int v28_0), .unset] [(.int (p1 &&& (32 : Int32)))])) _
          refine XS.ifYes X5.here hx rfl (pc0 := 83) (pc' := 90) rfl (hb hby at_83) rfl ((if0 _ _).trans (teq hc83).1) (by decide) (by decide) ?_
          show Steps p.tables e below (T5.setTop (mkF m 90 #[.val (.int p0), .val (.int p1), .val (.long q2), .second, .val (.long q3), .second, .val (.ref b1), .val (.int v8_0), .val (.int v13_0), .val (.int v18_0), .val (.int v23_0), .val (.int v28_0), .unset] [])) _
          refine XS.iconst X5.here hx rfl (hb hby at_90) ?_
          show Steps p.tables e below (T5.setTop (mkF m 91 #[.val (.int p0), .val (.int p1), .val (.long q2), .second, .val (.long q3), .second, .val (.ref b1), .val (.int v8_0), .val (.int v13_0), .val (.int v18_0), .val (.int v23_0), .val (.int v28_0), .unset] [(.int (0 : Int32))])) _
          exact Steps.refl _)
        exact ⟨(0 : Int32), (by rw [if_pos hc83]), K34⟩
      · have K35 : Steps p.tables e below _ (T5.setTop (mkF m 91 #[.val (.int p0), .val (.int p1), .val (.long q2), .second, .val (.long q3), .second, .val (.ref b1), .val (.int v8_0), .val (.int v13_0), .val (.int v18_0), .val (.int v23_0), .val (.int v28_0), .unset] [(.int (1 : Int32))])) := R33.trans (by
          show Steps p.tables e below (T5.setTop (mkF m 83 #[.val (.int p0), .val (.int p1), .val (.long q2), .second, .val (.long q3), .second, .val (.ref b1), .val (.int v8_0), .val (.int v13_0), .val (.int v18_0), .val (.int v23_0), .val (.int v28_0), .unset] [(.int (p1 &&& (32 : Int32)))])) _
          refine XS.ifNo X5.here hx rfl (hb hby at_83) rfl ((if0 _ _).trans (feq hc83).1) ?_
          show Steps p.tables e below (T5.setTop (mkF m 86 #[.val (.int p0), .val (.int p1), .val (.long q2), .second, .val (.long q3), .second, .val (.ref b1), .val (.int v8_0), .val (.int v13_0), .val (.int v18_0), .val (.int v23_0), .val (.int v28_0), .unset] [])) _
          refine XS.iconst X5.here hx rfl (hb hby at_86) ?_
          show Steps p.tables e below (T5.setTop (mkF m 87 #[.val (.int p0), .val (.int p1), .val (.long q2), .second, .val (.long q3), .second, .val (.ref b1), .val (.int v8_0), .val (.int v13_0), .val (.int v18_0), .val (.int v23_0), .val (.int v28_0), .unset] [(.int (1 : Int32))])) _
          refine XS.goto X5.here hx rfl (pc0 := 87) (pc' := 91) rfl (hb hby at_87) (by decide) (by decide) ?_
          show Steps p.tables e below (T5.setTop (mkF m 91 #[.val (.int p0), .val (.int p1), .val (.long q2), .second, .val (.long q3), .second, .val (.ref b1), .val (.int v8_0), .val (.int v13_0), .val (.int v18_0), .val (.int v23_0), .val (.int v28_0), .unset] [(.int (1 : Int32))])) _
          exact Steps.refl _)
        exact ⟨(1 : Int32), (by rw [if_neg hc83]), K35⟩
    have K36 := K32.trans S33
    have K37 : Steps p.tables e below _ (T5.setTop (mkF m 102 #[.val (.int p0), .val (.int p1), .val (.long q2), .second, .val (.long q3), .second, .val (.ref b1), .val (.int v8_0), .val (.int v13_0), .val (.int v18_0), .val (.int v23_0), .val (.int v28_0), .val (.int v33_0)] [(.long q3), (.int v13_0), (.long q2), (.int v8_0), (.ref b1)])) := K36.trans (by
      show Steps p.tables e below (T5.setTop (mkF m 91 #[.val (.int p0), .val (.int p1), .val (.long q2), .second, .val (.long q3), .second, .val (.ref b1), .val (.int v8_0), .val (.int v13_0), .val (.int v18_0), .val (.int v23_0), .val (.int v28_0), .unset] [(.int v33_0)])) _
      refine XS.istore X5.here hx rfl (hb hby at_91) rfl (l' := #[.val (.int p0), .val (.int p1), .val (.long q2), .second, .val (.long q3), .second, .val (.ref b1), .val (.int v8_0), .val (.int v13_0), .val (.int v18_0), .val (.int v23_0), .val (.int v28_0), .val (.int v33_0)]) rfl ?_
      show Steps p.tables e below (T5.setTop (mkF m 93 #[.val (.int p0), .val (.int p1), .val (.long q2), .second, .val (.long q3), .second, .val (.ref b1), .val (.int v8_0), .val (.int v13_0), .val (.int v18_0), .val (.int v23_0), .val (.int v28_0), .val (.int v33_0)] [])) _
      refine XS.aload X5.here hx rfl (hb hby at_93) rfl rfl ?_
      show Steps p.tables e below (T5.setTop (mkF m 95 #[.val (.int p0), .val (.int p1), .val (.long q2), .second, .val (.long q3), .second, .val (.ref b1), .val (.int v8_0), .val (.int v13_0), .val (.int v18_0), .val (.int v23_0), .val (.int v28_0), .val (.int v33_0)] [(.ref b1)])) _
      refine XS.iload X5.here hx rfl (hb hby at_95) rfl ?_
      show Steps p.tables e below (T5.setTop (mkF m 97 #[.val (.int p0), .val (.int p1), .val (.long q2), .second, .val (.long q3), .second, .val (.ref b1), .val (.int v8_0), .val (.int v13_0), .val (.int v18_0), .val (.int v23_0), .val (.int v28_0), .val (.int v33_0)] [(.int v8_0), (.ref b1)])) _
      refine XS.lloadN X5.here hx rfl (hb hby at_97) rfl ?_
      show Steps p.tables e below (T5.setTop (mkF m 98 #[.val (.int p0), .val (.int p1), .val (.long q2), .second, .val (.long q3), .second, .val (.ref b1), .val (.int v8_0), .val (.int v13_0), .val (.int v18_0), .val (.int v23_0), .val (.int v28_0), .val (.int v33_0)] [(.long q2), (.int v8_0), (.ref b1)])) _
      refine XS.iload X5.here hx rfl (hb hby at_98) rfl ?_
      show Steps p.tables e below (T5.setTop (mkF m 100 #[.val (.int p0), .val (.int p1), .val (.long q2), .second, .val (.long q3), .second, .val (.ref b1), .val (.int v8_0), .val (.int v13_0), .val (.int v18_0), .val (.int v23_0), .val (.int v28_0), .val (.int v33_0)] [(.int v13_0), (.long q2), (.int v8_0), (.ref b1)])) _
      refine XS.lload X5.here hx rfl (hb hby at_100) rfl ?_
      show Steps p.tables e below (T5.setTop (mkF m 102 #[.val (.int p0), .val (.int p1), .val (.long q2), .second, .val (.long q3), .second, .val (.ref b1), .val (.int v8_0), .val (.int v13_0), .val (.int v18_0), .val (.int v23_0), .val (.int v28_0), .val (.int v33_0)] [(.long q3), (.int v13_0), (.long q2), (.int v8_0), (.ref b1)])) _
      exact Steps.refl _)
    have Z_38 : n0 ≤ T5.heap.size := (Nat.le_trans Z_4 Kp5.1)
    obtain ⟨cq39, kq39, q39a, q39b, q39c⟩ := isOf hZ rfl Q5_0
    obtain ⟨_, _, ⟨T39, L39, k39, n39⟩, -, X39, ⟨Lc39, hQ39, l39, y39, z39⟩, st39⟩ := X5.virtualBack hx (y := (⟨"com/example/spanfold/spanfold/RangeList", "add", "(ZJZJ)V"⟩ : MethodName)) (z := (⟨"com/example/spanfold/spanfold/RangeList", "add", "(ZJZJ)V"⟩ : MethodName)) hown (mvT hZ (hw _ (List.mem_of_getElem? (i := 17) rfl))) (mvT hZ (hw _ (List.mem_of_getElem? (i := 18) rfl))) (notFace_of_selects (args := #[]) (mvT hZ (hw _ (List.mem_of_getElem? (i := 20) rfl)))) (mvT hZ (hw _ (List.mem_of_getElem? (i := 20) rfl))) (mvT hZ (hw _ (List.mem_of_getElem? (i := 19) rfl))) (by decide) (backOf (W := 0) (rm3g l Z a0 hw [] b1 v8_0 q2 v13_0 q3 b5_b5 b5_b12 b5_b23 k5_5 k12_5 k23_5 (0 : Int32) (List.replicate 3 (.long (0 : Int64))) (List.replicate 3 (.long (0 : Int64))) (List.replicate 3 (.int (0 : Int32))) (0 : Int32) 0 T5.heap n0 Z_38 Q5_0 Q5_4 Q5_7 Q5_10 Q5_1 Q5_2 Q5_5 Q5_8 ne_b1_b5_b5 ne_b1_b5_b12 ne_b1_b5_b23 ne5_14 ne5_15 ne5_16 ge_b1 (rfl) (by decide) (by decide) (by decide) (by decide) (rfl) (by decide) (by decide)) hZ (hw _ (List.mem_of_getElem? (i := 21) rfl)) (hw _ (List.mem_of_getElem? (i := 2) rfl)) (by decide) (by decide)) q39a q39c (g := (mkF m 102 #[.val (.int p0), .val (.int p1), .val (.long q2), .second, .val (.long q3), .second, .val (.ref b1), .val (.int v8_0), .val (.int v13_0), .val (.int v18_0), .val (.int v23_0), .val (.int v28_0), .val (.int v33_0)] [(.long q3), (.int v13_0), (.long q2), (.int v8_0), (.ref b1)])) rfl (by rw [hml]; rfl) K37 (argsL := [(.int v8_0), (.long q2), (.int v13_0), (.long q3)]) (rest := []) (lenOf pd_5 rfl) rfl (by show 2 * 0 + _ ≤ _; exact Nat.le_of_eq rfl) (hb hby at_102) (fun _ _ => ⟨rfl, rfl, (by decide : 4 + 3 ≤ _), (by decide : 13 + 24 ≤ _)⟩)
    dsimp only [Pt.U, Pt.locs, Pt.cells, Pt.slots] at X39 l39 y39 z39 st39 hQ39
    subst l39 y39 z39
    obtain ⟨b39_b19_b4, b39_b32_b4, b39_b50_b4, k4_19_39, k4_32_39, k4_50_39, rfl, N39, Kp39, Q39_0, Q39_1, Q39_2, Q39_3, Q39_4, Q39_5, Q39_6, Q39_7, Q39_8, Q39_9, Q39_10, sz39_b19_b4, sz39_b32_b4, sz39_b50_b4, ne39_14, ne39_15, ne39_16⟩ := hQ39
    have ne_b1_b39_b19_b4 : b1 ≠ b39_b19_b4 := Nat.ne_of_lt (Nat.lt_of_lt_of_le Q5_0.lt sz39_b19_b4)
    have ne_b5_b5_b39_b19_b4 : b5_b5 ≠ b39_b19_b4 := Nat.ne_of_lt (Nat.lt_of_lt_of_le Q5_2.lt sz39_b19_b4)
    have ne_b5_b12_b39_b19_b4 : b5_b12 ≠ b39_b19_b4 := Nat.ne_of_lt (Nat.lt_of_lt_of_le Q5_5.lt sz39_b19_b4)
    have ne_b5_b23_b39_b19_b4 : b5_b23 ≠ b39_b19_b4 := Nat.ne_of_lt (Nat.lt_of_lt_of_le Q5_8.lt sz39_b19_b4)
    have ge_b39_b19_b4 : n0 ≤ b39_b19_b4 := Nat.le_trans Z_38 sz39_b19_b4
    have ne_b1_b39_b32_b4 : b1 ≠ b39_b32_b4 := Nat.ne_of_lt (Nat.lt_of_lt_of_le Q5_0.lt sz39_b32_b4)
    have ne_b5_b5_b39_b32_b4 : b5_b5 ≠ b39_b32_b4 := Nat.ne_of_lt (Nat.lt_of_lt_of_le Q5_2.lt sz39_b32_b4)
    have ne_b5_b12_b39_b32_b4 : b5_b12 ≠ b39_b32_b4 := Nat.ne_of_lt (Nat.lt_of_lt_of_le Q5_5.lt sz39_b32_b4)
    have ne_b5_b23_b39_b32_b4 : b5_b23 ≠ b39_b32_b4 := Nat.ne_of_lt (Nat.lt_of_lt_of_le Q5_8.lt sz39_b32_b4)
    have ge_b39_b32_b4 : n0 ≤ b39_b32_b4 := Nat.le_trans Z_38 sz39_b32_b4
    have ne_b1_b39_b50_b4 : b1 ≠ b39_b50_b4 := Nat.ne_of_lt (Nat.lt_of_lt_of_le Q5_0.lt sz39_b50_b4)
    have ne_b5_b5_b39_b50_b4 : b5_b5 ≠ b39_b50_b4 := Nat.ne_of_lt (Nat.lt_of_lt_of_le Q5_2.lt sz39_b50_b4)
    have ne_b5_b12_b39_b50_b4 : b5_b12 ≠ b39_b50_b4 := Nat.ne_of_lt (Nat.lt_of_lt_of_le Q5_5.lt sz39_b50_b4)
    have ne_b5_b23_b39_b50_b4 : b5_b23 ≠ b39_b50_b4 := Nat.ne_of_lt (Nat.lt_of_lt_of_le Q5_8.lt sz39_b50_b4)
    have ge_b39_b50_b4 : n0 ≤ b39_b50_b4 := Nat.le_trans Z_38 sz39_b50_b4
    have Q39_4f : Fld Z T39.heap b1 "com/example/spanfold/spanfold/RangeList" "size" "I" (.int (1 : Int32)) := Q39_4
    have N39' := Fr.app N5' N39
    have K40 : Steps p.tables e below _ (T39.setTop (mkF m 105 #[.val (.int p0), .val (.int p1), .val (.long q2), .second, .val (.long q3), .second, .val (.ref b1), .val (.int v8_0), .val (.int v13_0), .val (.int v18_0), .val (.int v23_0), .val (.int v28_0), .val (.int v33_0)] [])) := st39
    have K41 : Steps p.tables e below _ (T39.setTop (mkF m 114 #[.val (.int p0), .val (.int p1), .val (.long q2), .second, .val (.long q3), .second, .val (.ref b1), .val (.int v8_0), .val (.int v13_0), .val (.int v18_0), .val (.int v23_0), .val (.int v28_0), .val (.int v33_0)] [(.long q2), (.int v23_0), (.long q3), (.int v18_0), (.ref b1)])) := K40.trans (by
      show Steps p.tables e below (T39.setTop (mkF m 105 #[.val (.int p0), .val (.int p1), .val (.long q2), .second, .val (.long q3), .second, .val (.ref b1), .val (.int v8_0), .val (.int v13_0), .val (.int v18_0), .val (.int v23_0), .val (.int v28_0), .val (.int v33_0)] [])) _
      refine XS.aload X39.here hx rfl (hb hby at_105) rfl rfl ?_
      show Steps p.tables e below (T39.setTop (mkF m 107 #[.val (.int p0), .val (.int p1), .val (.long q2), .second, .val (.long q3), .second, .val (.ref b1), .val (.int v8_0), .val (.int v13_0), .val (.int v18_0), .val (.int v23_0), .val (.int v28_0), .val (.int v33_0)] [(.ref b1)])) _
      refine XS.iload X39.here hx rfl (hb hby at_107) rfl ?_
      show Steps p.tables e below (T39.setTop (mkF m 109 #[.val (.int p0), .val (.int p1), .val (.long q2), .second, .val (.long q3), .second, .val (.ref b1), .val (.int v8_0), .val (.int v13_0), .val (.int v18_0), .val (.int v23_0), .val (.int v28_0), .val (.int v33_0)] [(.int v18_0), (.ref b1)])) _
      refine XS.lload X39.here hx rfl (hb hby at_109) rfl ?_
      show Steps p.tables e below (T39.setTop (mkF m 111 #[.val (.int p0), .val (.int p1), .val (.long q2), .second, .val (.long q3), .second, .val (.ref b1), .val (.int v8_0), .val (.int v13_0), .val (.int v18_0), .val (.int v23_0), .val (.int v28_0), .val (.int v33_0)] [(.long q3), (.int v18_0), (.ref b1)])) _
      refine XS.iload X39.here hx rfl (hb hby at_111) rfl ?_
      show Steps p.tables e below (T39.setTop (mkF m 113 #[.val (.int p0), .val (.int p1), .val (.long q2), .second, .val (.long q3), .second, .val (.ref b1), .val (.int v8_0), .val (.int v13_0), .val (.int v18_0), .val (.int v23_0), .val (.int v28_0), .val (.int v33_0)] [(.int v23_0), (.long q3), (.int v18_0), (.ref b1)])) _
      refine XS.lloadN X39.here hx rfl (hb hby at_113) rfl ?_
      show Steps p.tables e below (T39.setTop (mkF m 114 #[.val (.int p0), .val (.int p1), .val (.long q2), .second, .val (.long q3), .second, .val (.ref b1), .val (.int v8_0), .val (.int v13_0), .val (.int v18_0), .val (.int v23_0), .val (.int v28_0), .val (.int v33_0)] [(.long q2), (.int v23_0), (.long q3), (.int v18_0), (.ref b1)])) _
      exact Steps.refl _)
    have Z_42 : n0 ≤ T39.heap.size := (Nat.le_trans Z_38 Kp39.1)
    obtain ⟨cq43, kq43, q43a, q43b, q43c⟩ := isOf hZ rfl Q39_0
    obtain ⟨_, _, ⟨T43, L43, k43, n43⟩, -, X43, ⟨Lc43, hQ43, l43, y43, z43⟩, st43⟩ := X39.virtualBack hx (y := (⟨"com/example/spanfold/spanfold/RangeList", "add", "(ZJZJ)V"⟩ : MethodName)) (z := (⟨"com/example/spanfold/spanfold/RangeList", "add", "(ZJZJ)V"⟩ : MethodName)) hown (mvT hZ (hw _ (List.mem_of_getElem? (i := 17) rfl))) (mvT hZ (hw _ (List.mem_of_getElem? (i := 18) rfl))) (notFace_of_selects (args := #[]) (mvT hZ (hw _ (List.mem_of_getElem? (i := 20) rfl)))) (mvT hZ (hw _ (List.mem_of_getElem? (i := 20) rfl))) (mvT hZ (hw _ (List.mem_of_getElem? (i := 19) rfl))) (by decide) (backOf (W := 0) (rm3n l Z a0 hw [] b1 v18_0 q3 v23_0 q2 b39_b19_b4 b39_b32_b4 b39_b50_b4 k4_19_39 k4_32_39 k4_50_39 (8 : Int32) ((own_cp 8 (0 : Int32).toNatClampNeg (List.replicate 3 (.long (0 : Int64))) (.long (0 : Int64))).set 0 (.long (if v8_0 = (0 : Int32) then (0 : Int64) else q2))) ((own_cp 8 (0 : Int32).toNatClampNeg (List.replicate 3 (.long (0 : Int64))) (.long (0 : Int64))).set 0 (.long (if v13_0 = (0 : Int32) then (0 : Int64) else q3))) ((own_cp 8 (0 : Int32).toNatClampNeg (List.replicate 3 (.int (0 : Int32))) (.int (0 : Int32))).set 0 (.int ((((if v8_0 = (0 : Int32) then (0 : Int32) else (1 : Int32)) ||| (if v13_0 = (0 : Int32) then (0 : Int32) else (2 : Int32))).toInt8.toInt32).toInt8.toInt32))) (1 : Int32) 1 T39.heap n0 Z_42 Q39_0 Q39_1 Q39_2 Q39_3 Q39_4f Q39_6 Q39_8 Q39_10 ne_b1_b39_b19_b4 ne_b1_b39_b32_b4 ne_b1_b39_b50_b4 ne39_14 ne39_15 ne39_16 ge_b1 ge_b39_b19_b4 ge_b39_b32_b4 ge_b39_b50_b4 (by decide) (by decide) (rfl) (Nat.le_of_ble_eq_true rfl) (Nat.le_of_ble_eq_true rfl) (Nat.le_of_ble_eq_true rfl)) hZ (hw _ (List.mem_of_getElem? (i := 21) rfl)) (hw _ (List.mem_of_getElem? (i := 2) rfl)) (by decide) (by decide)) q43a q43c (g := (mkF m 114 #[.val (.int p0), .val (.int p1), .val (.long q2), .second, .val (.long q3), .second, .val (.ref b1), .val (.int v8_0), .val (.int v13_0), .val (.int v18_0), .val (.int v23_0), .val (.int v28_0), .val (.int v33_0)] [(.long q2), (.int v23_0), (.long q3), (.int v18_0), (.ref b1)])) rfl (by rw [hml]; rfl) K41 (argsL := [(.int v18_0), (.long q3), (.int v23_0), (.long q2)]) (rest := []) (lenOf pd_5 rfl) rfl (by show 2 * 0 + _ ≤ _; exact Nat.le_of_eq rfl) (hb hby at_114) (fun _ _ => ⟨rfl, rfl, (by decide : 7 + 0 ≤ _), (by decide : 37 + 0 ≤ _)⟩)
    dsimp only [Pt.U, Pt.locs, Pt.cells, Pt.slots] at X43 l43 y43 z43 st43 hQ43
    subst l43 y43 z43
    obtain ⟨rfl, N43, Kp43, Q43_0, Q43_1, Q43_2, Q43_3, Q43_4, Q43_5, Q43_6, Q43_7⟩ := hQ43
    have Q43_4f : Fld Z T43.heap b1 "com/example/spanfold/spanfold/RangeList" "size" "I" (.int (2 : Int32)) := Q43_4
    have N43' := Fr.app N39' N43
    have K44 : Steps p.tables e below _ (T43.setTop (mkF m 117 #[.val (.int p0), .val (.int p1), .val (.long q2), .second, .val (.long q3), .second, .val (.ref b1), .val (.int v8_0), .val (.int v13_0), .val (.int v18_0), .val (.int v23_0), .val (.int v28_0), .val (.int v33_0)] [])) := st43
    have K45 : Steps p.tables e below _ (T43.setTop (mkF m 128 #[.val (.int p0), .val (.int p1), .val (.long q2), .second, .val (.long q3), .second, .val (.ref b1), .val (.int v8_0), .val (.int v13_0), .val (.int v18_0), .val (.int v23_0), .val (.int v28_0), .val (.int v33_0)] [(.long (q3 - q2)), (.int v33_0), (.long q2), (.int v28_0), (.ref b1)])) := K44.trans (by
      show Steps p.tables e below (T43.setTop (mkF m 117 #[.val (.int p0), .val (.int p1), .val (.long q2), .second, .val (.long q3), .second, .val (.ref b1), .val (.int v8_0), .val (.int v13_0), .val (.int v18_0), .val (.int v23_0), .val (.int v28_0), .val (.int v33_0)] [])) _
      refine XS.aload X43.here hx rfl (hb hby at_117) rfl rfl ?_
      show Steps p.tables e below (T43.setTop (mkF m 119 #[.val (.int p0), .val (.int p1), .val (.long q2), .second, .val (.long q3), .second, .val (.ref b1), .val (.int v8_0), .val (.int v13_0), .val (.int v18_0), .val (.int v23_0), .val (.int v28_0), .val (.int v33_0)] [(.ref b1)])) _
      refine XS.iload X43.here hx rfl (hb hby at_119) rfl ?_
      show Steps p.tables e below (T43.setTop (mkF m 121 #[.val (.int p0), .val (.int p1), .val (.long q2), .second, .val (.long q3), .second, .val (.ref b1), .val (.int v8_0), .val (.int v13_0), .val (.int v18_0), .val (.int v23_0), .val (.int v28_0), .val (.int v33_0)] [(.int v28_0), (.ref b1)])) _
      refine XS.lloadN X43.here hx rfl (hb hby at_121) rfl ?_
      show Steps p.tables e below (T43.setTop (mkF m 122 #[.val (.int p0), .val (.int p1), .val (.long q2), .second, .val (.long q3), .second, .val (.ref b1), .val (.int v8_0), .val (.int v13_0), .val (.int v18_0), .val (.int v23_0), .val (.int v28_0), .val (.int v33_0)] [(.long q2), (.int v28_0), (.ref b1)])) _
      refine XS.iload X43.here hx rfl (hb hby at_122) rfl ?_
      show Steps p.tables e below (T43.setTop (mkF m 124 #[.val (.int p0), .val (.int p1), .val (.long q2), .second, .val (.long q3), .second, .val (.ref b1), .val (.int v8_0), .val (.int v13_0), .val (.int v18_0), .val (.int v23_0), .val (.int v28_0), .val (.int v33_0)] [(.int v33_0), (.long q2), (.int v28_0), (.ref b1)])) _
      refine XS.lload X43.here hx rfl (hb hby at_124) rfl ?_
      show Steps p.tables e below (T43.setTop (mkF m 126 #[.val (.int p0), .val (.int p1), .val (.long q2), .second, .val (.long q3), .second, .val (.ref b1), .val (.int v8_0), .val (.int v13_0), .val (.int v18_0), .val (.int v23_0), .val (.int v28_0), .val (.int v33_0)] [(.long q3), (.int v33_0), (.long q2), (.int v28_0), (.ref b1)])) _
      refine XS.lloadN X43.here hx rfl (hb hby at_126) rfl ?_
      show Steps p.tables e below (T43.setTop (mkF m 127 #[.val (.int p0), .val (.int p1), .val (.long q2), .second, .val (.long q3), .second, .val (.ref b1), .val (.int v8_0), .val (.int v13_0), .val (.int v18_0), .val (.int v23_0), .val (.int v28_0), .val (.int v33_0)] [(.long q2), (.long q3), (.int v33_0), (.long q2), (.int v28_0), (.ref b1)])) _
      refine XS.lsub X43.here hx rfl (hb hby at_127) rfl ?_
      show Steps p.tables e below (T43.setTop (mkF m 128 #[.val (.int p0), .val (.int p1), .val (.long q2), .second, .val (.long q3), .second, .val (.ref b1), .val (.int v8_0), .val (.int v13_0), .val (.int v18_0), .val (.int v23_0), .val (.int v28_0), .val (.int v33_0)] [(.long (q3 - q2)), (.int v33_0), (.long q2), (.int v28_0), (.ref b1)])) _
      exact Steps.refl _)
    have Z_46 : n0 ≤ T43.heap.size := (Nat.le_trans Z_42 Kp43.1)
    obtain ⟨cq47, kq47, q47a, q47b, q47c⟩ := isOf hZ rfl Q43_0
    obtain ⟨_, _, ⟨T47, L47, k47, n47⟩, -, X47, ⟨Lc47, hQ47, l47, y47, z47⟩, st47⟩ := X43.virtualBack hx (y := (⟨"com/example/spanfold/spanfold/RangeList", "add", "(ZJZJ)V"⟩ : MethodName)) (z := (⟨"com/example/spanfold/spanfold/RangeList", "add", "(ZJZJ)V"⟩ : MethodName)) hown (mvT hZ (hw _ (List.mem_of_getElem? (i := 17) rfl))) (mvT hZ (hw _ (List.mem_of_getElem? (i := 18) rfl))) (notFace_of_selects (args := #[]) (mvT hZ (hw _ (List.mem_of_getElem? (i := 20) rfl)))) (mvT hZ (hw _ (List.mem_of_getElem? (i := 20) rfl))) (mvT hZ (hw _ (List.mem_of_getElem? (i := 19) rfl))) (by decide) (backOf (W := 0) (rm3n l Z a0 hw [] b1 v28_0 q2 v33_0 (q3 - q2) b39_b19_b4 b39_b32_b4 b39_b50_b4 k4_19_39 k4_32_39 k4_50_39 (8 : Int32) (((own_cp 8 (0 : Int32).toNatClampNeg (List.replicate 3 (.long (0 : Int64))) (.long (0 : Int64))).set 0 (.long (if v8_0 = (0 : Int32) then (0 : Int64) else q2))).set 1 (.long (if v18_0 = (0 : Int32) then (0 : Int64) else q3))) (((own_cp 8 (0 : Int32).toNatClampNeg (List.replicate 3 (.long (0 : Int64))) (.long (0 : Int64))).set 0 (.long (if v13_0 = (0 : Int32) then (0 : Int64) else q3))).set 1 (.long (if v23_0 = (0 : Int32) then (0 : Int64) else q2))) (((own_cp 8 (0 : Int32).toNatClampNeg (List.replicate 3 (.int (0 : Int32))) (.int (0 : Int32))).set 0 (.int ((((if v8_0 = (0 : Int32) then (0 : Int32) else (1 : Int32)) ||| (if v13_0 = (0 : Int32) then (0 : Int32) else (2 : Int32))).toInt8.toInt32).toInt8.toInt32))).set 1 (.int ((((if v18_0 = (0 : Int32) then (0 : Int32) else (1 : Int32)) ||| (if v23_0 = (0 : Int32) then (0 : Int32) else (2 : Int32))).toInt8.toInt32).toInt8.toInt32))) (2 : Int32) 2 T43.heap n0 Z_46 Q43_0 Q43_1 Q43_2 Q43_3 Q43_4f Q43_5 Q43_6 Q43_7 ne_b1_b39_b19_b4 ne_b1_b39_b32_b4 ne_b1_b39_b50_b4 ne39_14 ne39_15 ne39_16 ge_b1 ge_b39_b19_b4 ge_b39_b32_b4 ge_b39_b50_b4 (by decide) (by decide) (rfl) (Nat.le_of_ble_eq_true rfl) (Nat.le_of_ble_eq_true rfl) (Nat.le_of_ble_eq_true rfl)) hZ (hw _ (List.mem_of_getElem? (i := 21) rfl)) (hw _ (List.mem_of_getElem? (i := 2) rfl)) (by decide) (by decide)) q47a q47c (g := (mkF m 128 #[.val (.int p0), .val (.int p1), .val (.long q2), .second, .val (.long q3), .second, .val (.ref b1), .val (.int v8_0), .val (.int v13_0), .val (.int v18_0), .val (.int v23_0), .val (.int v28_0), .val (.int v33_0)] [(.long (q3 - q2)), (.int v33_0), (.long q2), (.int v28_0), (.ref b1)])) rfl (by rw [hml]; rfl) K45 (argsL := [(.int v28_0), (.long q2), (.int v33_0), (.long (q3 - q2))]) (rest := []) (lenOf pd_5 rfl) rfl (by show 2 * 0 + _ ≤ _; exact Nat.le_of_eq rfl) (hb hby at_128) (fun _ _ => ⟨rfl, rfl, (by decide : 7 + 0 ≤ _), (by decide : 37 + 0 ≤ _)⟩)
    dsimp only [Pt.U, Pt.locs, Pt.cells, Pt.slots] at X47 l47 y47 z47 st47 hQ47
    subst l47 y47 z47
    obtain ⟨rfl, N47, Kp47, Q47_0, Q47_1, Q47_2, Q47_3, Q47_4, Q47_5, Q47_6, Q47_7⟩ := hQ47
    have Q47_4f : Fld Z T47.heap b1 "com/example/spanfold/spanfold/RangeList" "size" "I" (.int (3 : Int32)) := Q47_4
    have N47' := Fr.app N43' N47
    have K48 : Steps p.tables e below _ (T47.setTop (mkF m 131 #[.val (.int p0), .val (.int p1), .val (.long q2), .second, .val (.long q3), .second, .val (.ref b1), .val (.int v8_0), .val (.int v13_0), .val (.int v18_0), .val (.int v23_0), .val (.int v28_0), .val (.int v33_0)] [])) := st47
    have K49 : Steps p.tables e below _ (T47.setTop (mkF m 134 #[.val (.int p0), .val (.int p1), .val (.long q2), .second, .val (.long q3), .second, .val (.ref b1), .val (.int v8_0), .val (.int v13_0), .val (.int v18_0), .val (.int v23_0), .val (.int v28_0), .val (.int v33_0)] [(.int (0 : Int32)), (.ref b1)])) := K48.trans (by
      show Steps p.tables e below (T47.setTop (mkF m 131 #[.val (.int p0), .val (.int p1), .val (.long q2), .second, .val (.long q3), .second, .val (.ref b1), .val (.int v8_0), .val (.int v13_0), .val (.int v18_0), .val (.int v23_0), .val (.int v28_0), .val (.int v33_0)] [])) _
      refine XS.aload X47.here hx rfl (hb hby at_131) rfl rfl ?_
      show Steps p.tables e below (T47.setTop (mkF m 133 #[.val (.int p0), .val (.int p1), .val (.long q2), .second, .val (.long q3), .second, .val (.ref b1), .val (.int v8_0), .val (.int v13_0), .val (.int v18_0), .val (.int v23_0), .val (.int v28_0), .val (.int v33_0)] [(.ref b1)])) _
      refine XS.iconst X47.here hx rfl (hb hby at_133) ?_
      show Steps p.tables e below (T47.setTop (mkF m 134 #[.val (.int p0), .val (.int p1), .val (.long q2), .second, .val (.long q3), .second, .val (.ref b1), .val (.int v8_0), .val (.int v13_0), .val (.int v18_0), .val (.int v23_0), .val (.int v28_0), .val (.int v33_0)] [(.int (0 : Int32)), (.ref b1)])) _
      exact Steps.refl _)
    have Z_50 : n0 ≤ T47.heap.size := (Nat.le_trans Z_46 Kp47.1)
    obtain ⟨cq51, kq51, q51a, q51b, q51c⟩ := isOf hZ rfl Q47_0
    obtain ⟨_, _, ⟨T51, L51, k51, n51⟩, -, X51, ⟨Lc51, hQ51, l51, y51, z51⟩, st51⟩ := X47.virtualBack hx (y := (⟨"com/example/spanfold/spanfold/RangeList", "hasTo", "(I)Z"⟩ : MethodName)) (z := (⟨"com/example/spanfold/spanfold/RangeList", "hasTo", "(I)Z"⟩ : MethodName)) hown (mvT hZ (hw _ (List.mem_of_getElem? (i := 42) rfl))) (mvT hZ (hw _ (List.mem_of_getElem? (i := 43) rfl))) (notFace_of_selects (args := #[]) (mvT hZ (hw _ (List.mem_of_getElem? (i := 45) rfl)))) (mvT hZ (hw _ (List.mem_of_getElem? (i := 45) rfl))) (mvT hZ (hw _ (List.mem_of_getElem? (i := 44) rfl))) (by decide) (backOf (W := 0) (rm8 l Z a0 hw [] b1 (0 : Int32) b39_b50_b4 k4_50_39 (8 : Int32) ((((own_cp 8 (0 : Int32).toNatClampNeg (List.replicate 3 (.int (0 : Int32))) (.int (0 : Int32))).set 0 (.int ((((if v8_0 = (0 : Int32) then (0 : Int32) else (1 : Int32)) ||| (if v13_0 = (0 : Int32) then (0 : Int32) else (2 : Int32))).toInt8.toInt32).toInt8.toInt32))).set 1 (.int ((((if v18_0 = (0 : Int32) then (0 : Int32) else (1 : Int32)) ||| (if v23_0 = (0 : Int32) then (0 : Int32) else (2 : Int32))).toInt8.toInt32).toInt8.toInt32))).set 2 (.int ((((if v28_0 = (0 : Int32) then (0 : Int32) else (1 : Int32)) ||| (if v33_0 = (0 : Int32) then (0 : Int32) else (2 : Int32))).toInt8.toInt32).toInt8.toInt32))) ((((if v8_0 = (0 : Int32) then (0 : Int32) else (1 : Int32)) ||| (if v13_0 = (0 : Int32) then (0 : Int32) else (2 : Int32))).toInt8.toInt32).toInt8.toInt32) (3 : Int32) T47.heap n0 Z_50 Q47_3 Q47_4f Q47_7 (by decide) (by decide) (by decide) (rfl)) hZ (hw _ (List.mem_of_getElem? (i := 46) rfl)) (hw _ (List.mem_of_getElem? (i := 2) rfl)) (by decide) (by decide)) q51a q51c (g := (mkF m 134 #[.val (.int p0), .val (.int p1), .val (.long q2), .second, .val (.long q3), .second, .val (.ref b1), .val (.int v8_0), .val (.int v13_0), .val (.int v18_0), .val (.int v23_0), .val (.int v28_0), .val (.int v33_0)] [(.int (0 : Int32)), (.ref b1)])) rfl (by rw [hml]; rfl) K49 (argsL := [(.int (0 : Int32))]) (rest := []) (lenOf pd_6 rfl) rfl (by show 2 * 0 + _ ≤ _; exact Nat.le_of_eq rfl) (hb hby at_134) (fun _ _ => ⟨rfl, rfl, (by decide : 7 + 0 ≤ _), (by decide : 37 + 0 ≤ _)⟩)
    dsimp only [Pt.U, Pt.locs, Pt.cells, Pt.slots] at X51 l51 y51 z51 st51 hQ51
    subst l51 y51 z51
    obtain ⟨rfl, N51, eh51⟩ := hQ51
    have N51' := Fr.app N47' N51
    have K53 : Steps p.tables e below _ (T51.setTop (mkF m 137 #[.val (.int p0), .val (.int p1), .val (.long q2), .second, .val (.long q3), .second, .val (.ref b1), .val (.int v8_0), .val (.int v13_0), .val (.int v18_0), .val (.int v23_0), .val (.int v28_0), .val (.int v33_0)] [(.int ((if (((((if v8_0 = (0 : Int32) then (0 : Int32) else (1 : Int32)) ||| (if v13_0 = (0 : Int32) then (0 : Int32) else (2 : Int32))).toInt8.toInt32).toInt8.toInt32) &&& (2 : Int32)) = (0 : Int32) then (0 : Int32) else (1 : Int32)) &&& 1))])) := st51
    obtain ⟨r52, hr52⟩ : ∃ z : Int32, ((if (((((if v8_0 = (0 : Int32) then (0 : Int32) else (1 : Int32)) ||| (if v13_0 = (0 : Int32) then (0 : Int32) else (2 : Int32))).toInt8.toInt32).toInt8.toInt32) &&& (2 : Int32)) = (0 : Int32) then (0 : Int32) else (1 : Int32)) &&& 1) = z := ⟨_, rfl⟩
    rw [hr52] at K53
    have K54 : Steps p.tables e below _ (T51.setTop (mkF m 139 #[.val (.int p0), .val (.int p1), .val (.long q2), .second, .val (.long q3), .second, .val (.ref b1), .val (.int v8_0), .val (.int v13_0), .val (.int v18_0), .val (.int v23_0), .val (.int v28_0), .val (.int v33_0)] [(.int v13_0), (.int r52)])) := K53.trans (by
      show Steps p.tables e below (T51.setTop (mkF m 137 #[.val (.int p0), .val (.int p1), .val (.long q2), .second, .val (.long q3), .second, .val (.ref b1), .val (.int v8_0), .val (.int v13_0), .val (.int v18_0), .val (.int v23_0), .val (.int v28_0), .val (.int v33_0)] [(.int r52)])) _
      refine XS.iload X51.here hx rfl (hb hby at_137) rfl ?_
      show Steps p.tables e below (T51.setTop (mkF m 139 #[.val (.int p0), .val (.int p1), .val (.long q2), .second, .val (.long q3), .second, .val (.ref b1), .val (.int v8_0), .val (.int v13_0), .val (.int v18_0), .val (.int v23_0), .val (.int v28_0), .val (.int v33_0)] [(.int v13_0), (.int r52)])) _
      exact Steps.refl _)
    obtain ⟨T55, L55, v55_0, X55, e55, N55, hv55_0, S55⟩ : ∃ (T55 : State) (L55 : List Loc) (v55_0 : Int32), Stand p l e room_1 s m #[(.int p0), (.int p1), (.long q2), (.long q3)] below meth c T55 L55 7 37 ∧ T55.heap = T47.heap ∧ Fr n0 L55 ∧ (if r52 = v13_0 then (if ((if (((((if v18_0 = (0 : Int32) then (0 : Int32) else (1 : Int32)) ||| (if v23_0 = (0 : Int32) then (0 : Int32) else (2 : Int32))).toInt8.toInt32).toInt8.toInt32) &&& (2 : Int32)) = (0 : Int32) then (0 : Int32) else (1 : Int32)) &&& 1) = v23_0 then (if ((if (((((if v28_0 = (0 : Int32) then (0 : Int32) else (1 : Int32)) ||| (if v33_0 = (0 : Int32) then (0 : Int32) else (2 : Int32))).toInt8.toInt32).toInt8.toInt32) &&& (2 : Int32)) = (0 : Int32) then (0 : Int32) else (1 : Int32)) &&& 1) = v33_0 then (1 : Int32) else (0 : Int32)) else (0 : Int32)) else (0 : Int32)) = v55_0 ∧ Steps p.tables e below (T51.setTop (mkF m 139 #[.val (.int p0), .val (.int p1), .val (.long q2), .second, .val (.long q3), .second, .val (.ref b1), .val (.int v8_0), .val (.int v13_0), .val (.int v18_0), .val (.int v23_0), .val (.int v28_0), .val (.int v33_0)] [(.int v13_0), (.int r52)])) (T55.setTop (mkF m 169 #[.val (.int p0), .val (.int p1), .val (.long q2), .second, .val (.long q3), .second, .val (.ref b1), .val (.int v8_0), .val (.int v13_0), .val (.int v18_0), .val (.int v23_0), .val (.int v28_0), .val (.int v33_0)] [(.int v55_0)])) := by
      have R55 : Steps p.tables e below (T51.setTop (mkF m 139 #[.val (.int p0), .val (.int p1), .val (.long q2), .second, .val (.long q3), .second, .val (.ref b1), .val (.int v8_0), .val (.int v13_0), .val (.int v18_0), .val (.int v23_0), .val (.int v28_0), .val (.int v33_0)] [(.int v13_0), (.int r52)])) (T51.setTop (mkF m 139 #[.val (.int p0), .val (.int p1), .val (.long q2), .second, .val (.long q3), .second, .val (.ref b1), .val (.int v8_0), .val (.int v13_0), .val (.int v18_0), .val (.int v23_0), .val (.int v28_0), .val (.int v33_0)] [(.int v13_0), (.int r52)])) := Steps.refl _
      by_cases hc139 : r52 = v13_0
      · have K56 : Steps p.tables e below _ (T51.setTop (mkF m 145 #[.val (.int p0), .val (.int p1), .val (.long q2), .second, .val (.long q3), .second, .val (.ref b1), .val (.int v8_0), .val (.int v13_0), .val (.int v18_0), .val (.int v23_0), .val (.int v28_0), .val (.int v33_0)] [(.int (1 : Int32)), (.ref b1)])) := R55.trans (by
          show Steps p.tables e below (T51.setTop (mkF m 139 #[.val (.int p0), .val (.int p1), .val (.long q2), .second, .val (.long q3), .second, .val (.ref b1), .val (.int v8_0), .val (.int v13_0), .val (.int v18_0), .val (.int v23_0), .val (.int v28_0), .val (.int v33_0)] [(.int v13_0), (.int r52)])) _
          refine XS.icmpNo X51.here hx rfl (hb hby at_139) rfl (teq hc139).2 ?_
          show Steps p.tables e below (T51.setTop (mkF m 142 #[.val (.int p0), .val (.int p1), .val (.long q2), .second, .val (.long q3), .second, .val (.ref b1), .val (.int v8_0), .val (.int v13_0), .val (.int v18_0), .val (.int v23_0), .val (.int v28_0), .val (.int v33_0)] [])) _
          refine XS.aload X51.here hx rfl (hb hby at_142) rfl rfl ?_
          show Steps p.tables e below (T51.setTop (mkF m 144 #[.val (.int p0), .val (.int p1), .val (.long q2), .second, .val (.long q3), .second, .val (.ref b1), .val (.int v8_0), .val (.int v13_0), .val (.int v18_0), .val (.int v23_0), .val (.int v28_0), .val (.int v33_0)] [(.ref b1)])) _
          refine XS.iconst X51.here hx rfl (hb hby at_144) ?_
          show Steps p.tables e below (T51.setTop (mkF m 145 #[.val (.int p0), .val (.int p1), .val (.long q2), .second, .val (.long q3), .second, .val (.ref b1), .val (.int v8_0), .val (.int v13_0), .val (.int v18_0), .val (.int v23_0), .val (.int v28_0), .val (.int v33_0)] [(.int (1 : Int32)), (.ref b1)])) _
          exact Steps.refl _)
        obtain ⟨cq57, kq57, q57a, q57b, q57c⟩ := isOf hZ eh51 Q47_0
        obtain ⟨_, _, ⟨T57, L57, k57, n57⟩, -, X57, ⟨Lc57, hQ57, l57, y57, z57⟩, st57⟩ := X51.virtualBack hx (y := (⟨"com/example/spanfold/spanfold/RangeList", "hasTo", "(I)Z"⟩ : MethodName)) (z := (⟨"com/example/spanfold/spanfold/RangeList", "hasTo", "(I)Z"⟩ : MethodName)) hown (mvT hZ (hw _ (List.mem_of_getElem? (i := 42) rfl))) (mvT hZ (hw _ (List.mem_of_getElem? (i := 43) rfl))) (notFace_of_selects (args := #[]) (mvT hZ (hw _ (List.mem_of_getElem? (i := 45) rfl)))) (mvT hZ (hw _ (List.mem_of_getElem? (i := 45) rfl))) (mvT hZ (hw _ (List.mem_of_getElem? (i := 44) rfl))) (by decide) (backOf (W := 0) (rm8 l Z a0 hw [] b1 (1 : Int32) b39_b50_b4 k4_50_39 (8 : Int32) ((((own_cp 8 (0 : Int32).toNatClampNeg (List.replicate 3 (.int (0 : Int32))) (.int (0 : Int32))).set 0 (.int ((((if v8_0 = (0 : Int32) then (0 : Int32) else (1 : Int32)) ||| (if v13_0 = (0 : Int32) then (0 : Int32) else (2 : Int32))).toInt8.toInt32).toInt8.toInt32))).set 1 (.int ((((if v18_0 = (0 : Int32) then (0 : Int32) else (1 : Int32)) ||| (if v23_0 = (0 : Int32) then (0 : Int32) else (2 : Int32))).toInt8.toInt32).toInt8.toInt32))).set 2 (.int ((((if v28_0 = (0 : Int32) then (0 : Int32) else (1 : Int32)) ||| (if v33_0 = (0 : Int32) then (0 : Int32) else (2 : Int32))).toInt8.toInt32).toInt8.toInt32))) ((((if v18_0 = (0 : Int32) then (0 : Int32) else (1 : Int32)) ||| (if v23_0 = (0 : Int32) then (0 : Int32) else (2 : Int32))).toInt8.toInt32).toInt8.toInt32) (3 : Int32) T47.heap n0 Z_50 Q47_3 Q47_4f Q47_7 (by decide) (by decide) (by decide) (rfl)) hZ (hw _ (List.mem_of_getElem? (i := 46) rfl)) (hw _ (List.mem_of_getElem? (i := 2) rfl)) (by decide) (by decide)) q57a q57c (g := (mkF m 145 #[.val (.int p0), .val (.int p1), .val (.long q2), .second, .val (.long q3), .second, .val (.ref b1), .val (.int v8_0), .val (.int v13_0), .val (.int v18_0), .val (.int v23_0), .val (.int v28_0), .val (.int v33_0)] [(.int (1 : Int32)), (.ref b1)])) rfl (by rw [hml]; rfl) K56 (argsL := [(.int (1 : Int32))]) (rest := []) (lenOf pd_6 rfl) rfl (by show 2 * 0 + _ ≤ _; exact Nat.le_of_eq rfl) (hb hby at_145) (fun _ _ => ⟨rfl, eh51, (by decide : 7 + 0 ≤ _), (by decide : 37 + 0 ≤ _)⟩)
        dsimp only [Pt.U, Pt.locs, Pt.cells, Pt.slots] at X57 l57 y57 z57 st57 hQ57
        subst l57 y57 z57
        obtain ⟨rfl, N57, eh57⟩ := hQ57
        have N57' := Fr.app N51' N57
        have K59 : Steps p.tables e below _ (T57.setTop (mkF m 148 #[.val (.int p0), .val (.int p1), .val (.long q2), .second, .val (.long q3), .second, .val (.ref b1), .val (.int v8_0), .val (.int v13_0), .val (.int v18_0), .val (.int v23_0), .val (.int v28_0), .val (.int v33_0)] [(.int ((if (((((if v18_0 = (0 : Int32) then (0 : Int32) else (1 : Int32)) ||| (if v23_0 = (0 : Int32) then (0 : Int32) else (2 : Int32))).toInt8.toInt32).toInt8.toInt32) &&& (2 : Int32)) = (0 : Int32) then (0 : Int32) else (1 : Int32)) &&& 1))])) := st57
        obtain ⟨r58, hr58⟩ : ∃ z : Int32, ((if (((((if v18_0 = (0 : Int32) then (0 : Int32) else (1 : Int32)) ||| (if v23_0 = (0 : Int32) then (0 : Int32) else (2 : Int32))).toInt8.toInt32).toInt8.toInt32) &&& (2 : Int32)) = (0 : Int32) then (0 : Int32) else (1 : Int32)) &&& 1) = z := ⟨_, rfl⟩
        rw [hr58] at K59
        have K60 : Steps p.tables e below _ (T57.setTop (mkF m 150 #[.val (.int p0), .val (.int p1), .val (.long q2), .second, .val (.long q3), .second, .val (.ref b1), .val (.int v8_0), .val (.int v13_0), .val (.int v18_0), .val (.int v23_0), .val (.int v28_0), .val (.int v33_0)] [(.int v23_0), (.int r58)])) := K59.trans (by
          show Steps p.tables e below (T57.setTop (mkF m 148 #[.val (.int p0), .val (.int p1), .val (.long q2), .second, .val (.long q3), .second, .val (.ref b1), .val (.int v8_0), .val (.int v13_0), .val (.int v18_0), .val (.int v23_0), .val (.int v28_0), .val (.int v33_0)] [(.int r58)])) _
          refine XS.iload X57.here hx rfl (hb hby at_148) rfl ?_
          show Steps p.tables e below (T57.setTop (mkF m 150 #[.val (.int p0), .val (.int p1), .val (.long q2), .second, .val (.long q3), .second, .val (.ref b1), .val (.int v8_0), .val (.int v13_0), .val (.int v18_0), .val (.int v23_0), .val (.int v28_0), .val (.int v33_0)] [(.int v23_0), (.int r58)])) _
          exact Steps.refl _)
        by_cases hc150 : r58 = v23_0
        · have K61 : Steps p.tables e below _ (T57.setTop (mkF m 156 #[.val (.int p0), .val (.int p1), .val (.long q2), .second, .val (.long q3), .second, .val (.ref b1), .val (.int v8_0), .val (.int v13_0), .val (.int v18_0), .val (.int v23_0), .val (.int v28_0), .val (.int v33_0)] [(.int (2 : Int32)), (.ref b1)])) := K60.trans (by
            show Steps p.tables e below (T57.setTop (mkF m 150 #[.val (.int p0), .val (.int p1), .val (.long q2), .second, .val (.long q3), .second, .val (.ref b1), .val (.int v8_0), .val (.int v13_0), .val (.int v18_0), .val (.int v23_0), .val (.int v28_0), .val (.int v33_0)] [(.int v23_0), (.int r58)])) _
            refine XS.icmpNo X57.here hx rfl (hb hby at_150) rfl (teq hc150).2 ?_
            show Steps p.tables e below (T57.setTop (mkF m 153 #[.val (.int p0), .val (.int p1), .val (.long q2), .second, .val (.long q3), .second, .val (.ref b1), .val (.int v8_0), .val (.int v13_0), .val (.int v18_0), .val (.int v23_0), .val (.int v28_0), .val (.int v33_0)] [])) _
            refine XS.aload X57.here hx rfl (hb hby at_153) rfl rfl ?_
            show Steps p.tables e below (T57.setTop (mkF m 155 #[.val (.int p0), .val (.int p1), .val (.long q2), .second, .val (.long q3), .second, .val (.ref b1), .val (.int v8_0), .val (.int v13_0), .val (.int v18_0), .val (.int v23_0), .val (.int v28_0), .val (.int v33_0)] [(.ref b1)])) _
            refine XS.iconst X57.here hx rfl (hb hby at_155) ?_
            show Steps p.tables e below (T57.setTop (mkF m 156 #[.val (.int p0), .val (.int p1), .val (.long q2), .second, .val (.long q3), .second, .val (.ref b1), .val (.int v8_0), .val (.int v13_0), .val (.int v18_0), .val (.int v23_0), .val (.int v28_0), .val (.int v33_0)] [(.int (2 : Int32)), (.ref b1)])) _
            exact Steps.refl _)
          obtain ⟨cq62, kq62, q62a, q62b, q62c⟩ := isOf hZ eh57 Q47_0
          obtain ⟨_, _, ⟨T62, L62, k62, n62⟩, -, X62, ⟨Lc62, hQ62, l62, y62, z62⟩, st62⟩ := X57.virtualBack hx (y := (⟨"com/example/spanfold/spanfold/RangeList", "hasTo", "(I)Z"⟩ : MethodName)) (z := (⟨"com/example/spanfold/spanfold/RangeList", "hasTo", "(I)Z"⟩ : MethodName)) hown (mvT hZ (hw _ (List.mem_of_getElem? (i := 42) rfl))) (mvT hZ (hw _ (List.mem_of_getElem? (i := 43) rfl))) (notFace_of_selects (args := #[]) (mvT hZ (hw _ (List.mem_of_getElem? (i := 45) rfl)))) (mvT hZ (hw _ (List.mem_of_getElem? (i := 45) rfl))) (mvT hZ (hw _ (List.mem_of_getElem? (i := 44) rfl))) (by decide) (backOf (W := 0) (rm8 l Z a0 hw [] b1 (2 : Int32) b39_b50_b4 k4_50_39 (8 : Int32) ((((own_cp 8 (0 : Int32).toNatClampNeg (List.replicate 3 (.int (0 : Int32))) (.int (0 : Int32))).set 0 (.int ((((if v8_0 = (0 : Int32) then (0 : Int32) else (1 : Int32)) ||| (if v13_0 = (0 : Int32) then (0 : Int32) else (2 : Int32))).toInt8.toInt32).toInt8.toInt32))).set 1 (.int ((((if v18_0 = (0 : Int32) then (0 : Int32) else (1 : Int32)) ||| (if v23_0 = (0 : Int32) then (0 : Int32) else (2 : Int32))).toInt8.toInt32).toInt8.toInt32))).set 2 (.int ((((if v28_0 = (0 : Int32) then (0 : Int32) else (1 : Int32)) ||| (if v33_0 = (0 : Int32) then (0 : Int32) else (2 : Int32))).toInt8.toInt32).toInt8.toInt32))) ((((if v28_0 = (0 : Int32) then (0 : Int32) else (1 : Int32)) ||| (if v33_0 = (0 : Int32) then (0 : Int32) else (2 : Int32))).toInt8.toInt32).toInt8.toInt32) (3 : Int32) T47.heap n0 Z_50 Q47_3 Q47_4f Q47_7 (by decide) (by decide) (by decide) (rfl)) hZ (hw _ (List.mem_of_getElem? (i := 46) rfl)) (hw _ (List.mem_of_getElem? (i := 2) rfl)) (by decide) (by decide)) q62a q62c (g := (mkF m 156 #[.val (.int p0), .val (.int p1), .val (.long q2), .second, .val (.long q3), .second, .val (.ref b1), .val (.int v8_0), .val (.int v13_0), .val (.int v18_0), .val (.int v23_0), .val (.int v28_0), .val (.int v33_0)] [(.int (2 : Int32)), (.ref b1)])) rfl (by rw [hml]; rfl) K61 (argsL := [(.int (2 : Int32))]) (rest := []) (lenOf pd_6 rfl) rfl (by show 2 * 0 + _ ≤ _; exact Nat.le_of_eq rfl) (hb hby at_156) (fun _ _ => ⟨rfl, eh57, (by decide : 7 + 0 ≤ _), (by decide : 37 + 0 ≤ _)⟩)
          dsimp only [Pt.U, Pt.locs, Pt.cells, Pt.slots] at X62 l62 y62 z62 st62 hQ62
          subst l62 y62 z62
          obtain ⟨rfl, N62, eh62⟩ := hQ62
          have N62' := Fr.app N57' N62
          have K64 : Steps p.tables e below _ (T62.setTop (mkF m 159 #[.val (.int p0), .val (.int p1), .val (.long q2), .second, .val (.long q3), .second, .val (.ref b1), .val (.int v8_0), .val (.int v13_0), .val (.int v18_0), .val (.int v23_0), .val (.int v28_0), .val (.int v33_0)] [(.int ((if (((((if v28_0 = (0 : Int32) then (0 : Int32) else (1 : Int32)) ||| (if v33_0 = (0 : Int32) then (0 : Int32) else (2 : Int32))).toInt8.toInt32).toInt8.toInt32) &&& (2 : Int32)) = (0 : Int32) then (0 : Int32) else (1 : Int32)) &&& 1))])) := st62
          obtain ⟨r63, hr63⟩ : ∃ z : Int32, ((if (((((if v28_0 = (0 : Int32) then (0 : Int32) else (1 : Int32)) ||| (if v33_0 = (0 : Int32) then (0 : Int32) else (2 : Int32))).toInt8.toInt32).toInt8.toInt32) &&& (2 : Int32)) = (0 : Int32) then (0 : Int32) else (1 : Int32)) &&& 1) = z := ⟨_, rfl⟩
          rw [hr63] at K64
          have K65 : Steps p.tables e below _ (T62.setTop (mkF m 161 #[.val (.int p0), .val (.int p1), .val (.long q2), .second, .val (.long q3), .second, .val (.ref b1), .val (.int v8_0), .val (.int v13_0), .val (.int v18_0), .val (.int v23_0), .val (.int v28_0), .val (.int v33_0)] [(.int v33_0), (.int r63)])) := K64.trans (by
            show Steps p.tables e below (T62.setTop (mkF m 159 #[.val (.int p0), .val (.int p1), .val (.long q2), .second, .val (.long q3), .second, .val (.ref b1), .val (.int v8_0), .val (.int v13_0), .val (.int v18_0), .val (.int v23_0), .val (.int v28_0), .val (.int v33_0)] [(.int r63)])) _
            refine XS.iload X62.here hx rfl (hb hby at_159) rfl ?_
            show Steps p.tables e below (T62.setTop (mkF m 161 #[.val (.int p0), .val (.int p1), .val (.long q2), .second, .val (.long q3), .second, .val (.ref b1), .val (.int v8_0), .val (.int v13_0), .val (.int v18_0), .val (.int v23_0), .val (.int v28_0), .val (.int v33_0)] [(.int v33_0), (.int r63)])) _
            exact Steps.refl _)
          by_cases hc161 : r63 = v33_0
          · have K66 : Steps p.tables e below _ (T62.setTop (mkF m 169 #[.val (.int p0), .val (.int p1), .val (.long q2), .second, .val (.long q3), .second, .val (.ref b1), .val (.int v8_0), .val (.int v13_0), .val (.int v18_0), .val (.int v23_0), .val (.int v28_0), .val (.int v33_0)] [(.int (1 : Int32))])) := K65.trans (by
              show Steps p.tables e below (T62.setTop (mkF m 161 #[.val (.int p0), .val (.int p1), .val (.long q2), .second, .val (.long q3), .second, .val (.ref b1), .val (.int v8_0), .val (.int v13_0), .val (.int v18_0), .val (.int v23_0), .val (.int v28_0), .val (.int v33_0)] [(.int v33_0), (.int r63)])) _
              refine XS.icmpNo X62.here hx rfl (hb hby at_161) rfl (teq hc161).2 ?_
              show Steps p.tables e below (T62.setTop (mkF m 164 #[.val (.int p0), .val (.int p1), .val (.long q2), .second, .val (.long q3), .second, .val (.ref b1), .val (.int v8_0), .val (.int v13_0), .val (.int v18_0), .val (.int v23_0), .val (.int v28_0), .val (.int v33_0)] [])) _
              refine XS.iconst X62.here hx rfl (hb hby at_164) ?_
              show Steps p.tables e below (T62.setTop (mkF m 165 #[.val (.int p0), .val (.int p1), .val (.long q2), .second, .val (.long q3), .second, .val (.ref b1), .val (.int v8_0), .val (.int v13_0), .val (.int v18_0), .val (.int v23_0), .val (.int v28_0), .val (.int v33_0)] [(.int (1 : Int32))])) _
              refine XS.goto X62.here hx rfl (pc0 := 165) (pc' := 169) rfl (hb hby at_165) (by decide) (by decide) ?_
              show Steps p.tables e below (T62.setTop (mkF m 169 #[.val (.int p0), .val (.int p1), .val (.long q2), .second, .val (.long q3), .second, .val (.ref b1), .val (.int v8_0), .val (.int v13_0), .val (.int v18_0), .val (.int v23_0), .val (.int v28_0), .val (.int v33_0)] [(.int (1 : Int32))])) _
              exact Steps.refl _)
            subst hr63
            subst hr58
            exact ⟨T62, _, (1 : Int32), X62, eh62, N62', (by rw [if_pos hc139, if_pos hc150, if_pos hc161]), K66⟩
          · have K67 : Steps p.tables e below _ (T62.setTop (mkF m 169 #[.val (.int p0), .val (.int p1), .val (.long q2), .second, .val (.long q3), .second, .val (.ref b1), .val (.int v8_0), .val (.int v13_0), .val (.int v18_0), .val (.int v23_0), .val (.int v28_0), .val (.int v33_0)] [(.int (0 : Int32))])) := K65.trans (by
              show Steps p.tables e below (T62.setTop (mkF m 161 #[.val (.int p0), .val (.int p1), .val (.long q2), .second, .val (.long q3), .second, .val (.ref b1), .val (.int v8_0), .val (.int v13_0), .val (.int v18_0), .val (.int v23_0), .val (.int v28_0), .val (.int v33_0)] [(.int v33_0), (.int r63)])) _
              refine XS.icmpYes X62.here hx rfl (pc0 := 161) (pc' := 168) rfl (hb hby at_161) rfl (feq hc161).2 (by decide) (by decide) ?_
              show Steps p.tables e below (T62.setTop (mkF m 168 #[.val (.int p0), .val (.int p1), .val (.long q2), .second, .val (.long q3), .second, .val (.ref b1), .val (.int v8_0), .val (.int v13_0), .val (.int v18_0), .val (.int v23_0), .val (.int v28_0), .val (.int v33_0)] [])) _
              refine XS.iconst X62.here hx rfl (hb hby at_168) ?_
              show Steps p.tables e below (T62.setTop (mkF m 169 #[.val (.int p0), .val (.int p1), .val (.long q2), .second, .val (.long q3), .second, .val (.ref b1), .val (.int v8_0), .val (.int v13_0), .val (.int v18_0), .val (.int v23_0), .val (.int v28_0), .val (.int v33_0)] [(.int (0 : Int32))])) _
              exact Steps.refl _)
            subst hr63
            subst hr58
            exact ⟨T62, _, (0 : Int32), X62, eh62, N62', (by rw [if_pos hc139, if_pos hc150, if_neg hc161]), K67⟩
        · have K68 : Steps p.tables e below _ (T57.setTop (mkF m 169 #[.val (.int p0), .val (.int p1), .val (.long q2), .second, .val (.long q3), .second, .val (.ref b1), .val (.int v8_0), .val (.int v13_0), .val (.int v18_0), .val (.int v23_0), .val (.int v28_0), .val (.int v33_0)] [(.int (0 : Int32))])) := K60.trans (by
            show Steps p.tables e below (T57.setTop (mkF m 150 #[.val (.int p0), .val (.int p1), .val (.long q2), .second, .val (.long q3), .second, .val (.ref b1), .val (.int v8_0), .val (.int v13_0), .val (.int v18_0), .val (.int v23_0), .val (.int v28_0), .val (.int v33_0)] [(.int v23_0), (.int r58)])) _
            refine XS.icmpYes X57.here hx rfl (pc0 := 150) (pc' := 168) rfl (hb hby at_150) rfl (feq hc150).2 (by decide) (by decide) ?_
            show Steps p.tables e below (T57.setTop (mkF m 168 #[.val (.int p0), .val (.int p1), .val (.long q2), .second, .val (.long q3), .second, .val (.ref b1), .val (.int v8_0), .val (.int v13_0), .val (.int v18_0), .val (.int v23_0), .val (.int v28_0), .val (.int v33_0)] [])) _
            refine XS.iconst X57.here hx rfl (hb hby at_168) ?_
            show Steps p.tables e below (T57.setTop (mkF m 169 #[.val (.int p0), .val (.int p1), .val (.long q2), .second, .val (.long q3), .second, .val (.ref b1), .val (.int v8_0), .val (.int v13_0), .val (.int v18_0), .val (.int v23_0), .val (.int v28_0), .val (.int v33_0)] [(.int (0 : Int32))])) _
            exact Steps.refl _)
          subst hr58
          exact ⟨T57, _, (0 : Int32), X57, eh57, N57', (by rw [if_pos hc139, if_neg hc150]), K68⟩
      · have K69 : Steps p.tables e below _ (T51.setTop (mkF m 169 #[.val (.int p0), .val (.int p1), .val (.long q2), .second, .val (.long q3), .second, .val (.ref b1), .val (.int v8_0), .val (.int v13_0), .val (.int v18_0), .val (.int v23_0), .val (.int v28_0), .val (.int v33_0)] [(.int (0 : Int32))])) := R55.trans (by
          show Steps p.tables e below (T51.setTop (mkF m 139 #[.val (.int p0), .val (.int p1), .val (.long q2), .second, .val (.long q3), .second, .val (.ref b1), .val (.int v8_0), .val (.int v13_0), .val (.int v18_0), .val (.int v23_0), .val (.int v28_0), .val (.int v33_0)] [(.int v13_0), (.int r52)])) _
          refine XS.icmpYes X51.here hx rfl (pc0 := 139) (pc' := 168) rfl (hb hby at_139) rfl (feq hc139).2 (by decide) (by decide) ?_
          show Steps p.tables e below (T51.setTop (mkF m 168 #[.val (.int p0), .val (.int p1), .val (.long q2), .second, .val (.long q3), .second, .val (.ref b1), .val (.int v8_0), .val (.int v13_0), .val (.int v18_0), .val (.int v23_0), .val (.int v28_0), .val (.int v33_0)] [])) _
          refine XS.iconst X51.here hx rfl (hb hby at_168) ?_
          show Steps p.tables e below (T51.setTop (mkF m 169 #[.val (.int p0), .val (.int p1), .val (.long q2), .second, .val (.long q3), .second, .val (.ref b1), .val (.int v8_0), .val (.int v13_0), .val (.int v18_0), .val (.int v23_0), .val (.int v28_0), .val (.int v33_0)] [(.int (0 : Int32))])) _
          exact Steps.refl _)
        exact ⟨T51, _, (0 : Int32), X51, eh51, N51', (by rw [if_neg hc139]), K69⟩
    have K70 := K54.trans S55
    have hone : (v55_0 &&& 1) = (1 : Int32) := own_law_0 p0 p1 q2 q3 v8_0 v13_0 v18_0 v23_0 v28_0 v33_0 r52 v55_0 hv8_0 hv13_0 hv18_0 hv23_0 hv28_0 hv33_0 hr52 hv55_0
    obtain ⟨fs, hr, hrun, hended, hW, hsame⟩ := X55.leave (v := some (.int (v55_0 &&& 1))) (fun h => by rw [Bd.returns] at h; cases h)
    exact ⟨_, _, K70.trans (retN X55 hx (t := .boolean) Bd.returns (by simp) (hb hby at_169) hr), hrun, hended, _, _, rfl, ⟨by rw [hone], N55⟩, ⟨_, rfl⟩, hW, hsame.mono (by decide) (by decide)⟩
  · rw [hcap] at K3
    have Z_71 : n0 ≤ h1.size := (Nat.le_trans Z0 E1.1)
    obtain ⟨_, _, ⟨T72, L72, k72, n72⟩, -, X72, ⟨Lc72, hQ72, l72, y72, z72⟩, st72⟩ := X1.specialBack hx (y := (⟨"com/example/spanfold/spanfold/RangeList", "<init>", "(I)V"⟩ : MethodName)) rfl hown (mvT hZ (hw _ (List.mem_of_getElem? (i := 3) rfl))) (mvT hZ (hw _ (List.mem_of_getElem? (i := 4) rfl))) (mvT hZ (hw _ (List.mem_of_getElem? (i := 5) rfl))) (by decide) (backOf (W := 1) (rm1 l Z a0 hw [] b1 (1 : Int32) (0 : Int32) .null .null .null h1 n0 Z_71 A1 F1_size ge_b1 (by decide) F1_froms F1_tos F1_ends) hZ (hw _ (List.mem_of_getElem? (i := 5) rfl)) (hw _ (List.mem_of_getElem? (i := 2) rfl)) (by decide) (by decide)) (g := (mkF m 7 #[.val (.int p0), .val (.int p1), .val (.long q2), .second, .val (.long q3), .second, .unset, .unset, .unset, .unset, .unset, .unset, .unset] [(.int (1 : Int32)), (.ref b1), (.ref b1)])) rfl (by rw [hml]; rfl) K3 (a := b1) (argsL := [(.int (1 : Int32))]) (rest := [(.ref b1)]) (lenOf pd_4 rfl) rfl (by show 2 * 0 + _ ≤ _; exact Nat.le_of_eq rfl) (hb hby at_7) (fun _ _ => ⟨rfl, e1, (by decide : 1 + 3 ≤ _), (by decide : 4 + 9 ≤ _)⟩)
    dsimp only [Pt.U, Pt.locs, Pt.cells, Pt.slots] at X72 l72 y72 z72 st72 hQ72
    subst l72 y72 z72
    obtain ⟨b72_b5, b72_b12, b72_b23, k5_72, k12_72, k23_72, rfl, N72, Kp72, Q72_0, Q72_1, Q72_2, Q72_3, Q72_4, Q72_5, Q72_6, Q72_7, Q72_8, Q72_9, Q72_10, sz72_b5, sz72_b12, sz72_b23, ne72_14, ne72_15, ne72_16⟩ := hQ72
    have ne_b1_b72_b5 : b1 ≠ b72_b5 := Nat.ne_of_lt (Nat.lt_of_lt_of_le A1.lt sz72_b5)
    have ge_b72_b5 : n0 ≤ b72_b5 := Nat.le_trans Z_71 sz72_b5
    have ne_b1_b72_b12 : b1 ≠ b72_b12 := Nat.ne_of_lt (Nat.lt_of_lt_of_le A1.lt sz72_b12)
    have ge_b72_b12 : n0 ≤ b72_b12 := Nat.le_trans Z_71 sz72_b12
    have ne_b1_b72_b23 : b1 ≠ b72_b23 := Nat.ne_of_lt (Nat.lt_of_lt_of_le A1.lt sz72_b23)
    have ge_b72_b23 : n0 ≤ b72_b23 := Nat.le_trans Z_71 sz72_b23
    have N72' := Fr.app N0 N72
    have K73 : Steps p.tables e below _ (T72.setTop (mkF m 10 #[.val (.int p0), .val (.int p1), .val (.long q2), .second, .val (.long q3), .second, .unset, .unset, .unset, .unset, .unset, .unset, .unset] [(.ref b1)])) := st72
    have K74 : Steps p.tables e below _ (T72.setTop (mkF m 15 #[.val (.int p0), .val (.int p1), .val (.long q2), .second, .val (.long q3), .second, .val (.ref b1), .unset, .unset, .unset, .unset, .unset, .unset] [(.int (p1 &&& (1 : Int32)))])) := K73.trans (by
      show Steps p.tables e below (T72.setTop (mkF m 10 #[.val (.int p0), .val (.int p1), .val (.long q2), .second, .val (.long q3), .second, .unset, .unset, .unset, .unset, .unset, .unset, .unset] [(.ref b1)])) _
      refine XS.astore X72.here hx rfl (hb hby at_10) rfl rfl (l' := #[.val (.int p0), .val (.int p1), .val (.long q2), .second, .val (.long q3), .second, .val (.ref b1), .unset, .unset, .unset, .unset, .unset, .unset]) rfl ?_
      show Steps p.tables e below (T72.setTop (mkF m 12 #[.val (.int p0), .val (.int p1), .val (.long q2), .second, .val (.long q3), .second, .val (.ref b1), .unset, .unset, .unset, .unset, .unset, .unset] [])) _
      refine XS.iloadN X72.here hx rfl (hb hby at_12) rfl ?_
      show Steps p.tables e below (T72.setTop (mkF m 13 #[.val (.int p0), .val (.int p1), .val (.long q2), .second, .val (.long q3), .second, .val (.ref b1), .unset, .unset, .unset, .unset, .unset, .unset] [(.int p1)])) _
      refine XS.iconst X72.here hx rfl (hb hby at_13) ?_
      show Steps p.tables e below (T72.setTop (mkF m 14 #[.val (.int p0), .val (.int p1), .val (.long q2), .second, .val (.long q3), .second, .val (.ref b1), .unset, .unset, .unset, .unset, .unset, .unset] [(.int (1 : Int32)), (.int p1)])) _
      refine XS.iand X72.here hx rfl (hb hby at_14) rfl ?_
      show Steps p.tables e below (T72.setTop (mkF m 15 #[.val (.int p0), .val (.int p1), .val (.long q2), .second, .val (.long q3), .second, .val (.ref b1), .unset, .unset, .unset, .unset, .unset, .unset] [(.int (p1 &&& (1 : Int32)))])) _
      exact Steps.refl _)
    obtain ⟨v75_0, hv75_0, S75⟩ : ∃ (v75_0 : Int32), (if (p1 &&& (1 : Int32)) = (0 : Int32) then (0 : Int32) else (1 : Int32)) = v75_0 ∧ Steps p.tables e below (T72.setTop (mkF m 15 #[.val (.int p0), .val (.int p1), .val (.long q2), .second, .val (.long q3), .second, .val (.ref b1), .unset, .unset, .unset, .unset, .unset, .unset] [(.int (p1 &&& (1 : Int32)))])) (T72.setTop (mkF m 23 #[.val (.int p0), .val (.int p1), .val (.long q2), .second, .val (.long q3), .second, .val (.ref b1), .unset, .unset, .unset, .unset, .unset, .unset] [(.int v75_0)])) := by
      have R75 : Steps p.tables e below (T72.setTop (mkF m 15 #[.val (.int p0), .val (.int p1), .val (.long q2), .second, .val (.long q3), .second, .val (.ref b1), .unset, .unset, .unset, .unset, .unset, .unset] [(.int (p1 &&& (1 : Int32)))])) (T72.setTop (mkF m 15 #[.val (.int p0), .val (.int p1), .val (.long q2), .second, .val (.long q3), .second, .val (.ref b1), .unset, .unset, .unset, .unset, .unset, .unset] [(.int (p1 &&& (1 : Int32)))])) := Steps.refl _
      by_cases hc15 : (p1 &&& (1 : Int32)) = (0 : Int32)
      · have K76 : Steps p.tables e below _ (T72.setTop (mkF m 23 #[.val (.int p0), .val (.int p1), .val (.long q2), .second, .val (.long q3), .second, .val (.ref b1), .unset, .unset, .unset, .unset, .unset, .unset] [(.int (0 : Int32))])) := R75.trans (by
          show Steps p.tables e below (T72.setTop (mkF m 15 #[.val (.int p0), .val (.int p1), .val (.long q2), .second, .val (.long q3), .second, .val (.ref b1), .unset, .unset, .unset, .unset, .unset, .unset] [(.int (p1 &&& (1 : Int32)))])) _
          refine XS.ifYes X72.here hx rfl (pc0 := 15) (pc' := 22) rfl (hb hby at_15) rfl ((if0 _ _).trans (teq hc15).1) (by decide) (by decide) ?_
          show Steps p.tables e below (T72.setTop (mkF m 22 #[.val (.int p0), .val (.int p1), .val (.long q2), .second, .val (.long q3), .second, .val (.ref b1), .unset, .unset, .unset, .unset, .unset, .unset] [])) _
          refine XS.iconst X72.here hx rfl (hb hby at_22) ?_
          show Steps p.tables e below (T72.setTop (mkF m 23 #[.val (.int p0), .val (.int p1), .val (.long q2), .second, .val (.long q3), .second, .val (.ref b1), .unset, .unset, .unset, .unset, .unset, .unset] [(.int (0 : Int32))])) _
          exact Steps.refl _)
        exact ⟨(0 : Int32), (by rw [if_pos hc15]), K76⟩
      · have K77 : Steps p.tables e below _ (T72.setTop (mkF m 23 #[.val (.int p0), .val (.int p1), .val (.long q2), .second, .val (.long q3), .second, .val (.ref b1), .unset, .unset, .unset, .unset, .unset, .unset] [(.int (1 : Int32))])) := R75.trans (by
          show Steps p.tables e below (T72.setTop (mkF m 15 #[.val (.int p0), .val (.int p1), .val (.long q2), .second, .val (.long q3), .second, .val (.ref b1), .unset, .unset, .unset, .unset, .unset, .unset] [(.int (p1 &&& (1 : Int32)))])) _
          refine XS.ifNo X72.here hx rfl (hb hby at_15) rfl ((if0 _ _).trans (feq hc15).1) ?_
          show Steps p.tables e below (T72.setTop (mkF m 18 #[.val (.int p0), .val (.int p1), .val (.long q2), .second, .val (.long q3), .second, .val (.ref b1), .unset, .unset, .unset, .unset, .unset, .unset] [])) _
          refine XS.iconst X72.here hx rfl (hb hby at_18) ?_
          show Steps p.tables e below (T72.setTop (mkF m 19 #[.val (.int p0), .val (.int p1), .val (.long q2), .second, .val (.long q3), .second, .val (.ref b1), .unset, .unset, .unset, .unset, .unset, .unset] [(.int (1 : Int32))])) _
          refine XS.goto X72.here hx rfl (pc0 := 19) (pc' := 23) rfl (hb hby at_19) (by decide) (by decide) ?_
          show Steps p.tables e below (T72.setTop (mkF m 23 #[.val (.int p0), .val (.int p1), .val (.long q2), .second, .val (.long q3), .second, .val (.ref b1), .unset, .unset, .unset, .unset, .unset, .unset] [(.int (1 : Int32))])) _
          exact Steps.refl _)
        exact ⟨(1 : Int32), (by rw [if_neg hc15]), K77⟩
    have K78 := K74.trans S75
    have K79 : Steps p.tables e below _ (T72.setTop (mkF m 28 #[.val (.int p0), .val (.int p1), .val (.long q2), .second, .val (.long q3), .second, .val (.ref b1), .val (.int v75_0), .unset, .unset, .unset, .unset, .unset] [(.int (p1 &&& (2 : Int32)))])) := K78.trans (by
      show Steps p.tables e below (T72.setTop (mkF m 23 #[.val (.int p0), .val (.int p1), .val (.long q2), .second, .val (.long q3), .second, .val (.ref b1), .unset, .unset, .unset, .unset, .unset, .unset] [(.int v75_0)])) _
      refine XS.istore X72.here hx rfl (hb hby at_23) rfl (l' := #[.val (.int p0), .val (.int p1), .val (.long q2), .second, .val (.long q3), .second, .val (.ref b1), .val (.int v75_0), .unset, .unset, .unset, .unset, .unset]) rfl ?_
      show Steps p.tables e below (T72.setTop (mkF m 25 #[.val (.int p0), .val (.int p1), .val (.long q2), .second, .val (.long q3), .second, .val (.ref b1), .val (.int v75_0), .unset, .unset, .unset, .unset, .unset] [])) _
      refine XS.iloadN X72.here hx rfl (hb hby at_25) rfl ?_
      show Steps p.tables e below (T72.setTop (mkF m 26 #[.val (.int p0), .val (.int p1), .val (.long q2), .second, .val (.long q3), .second, .val (.ref b1), .val (.int v75_0), .unset, .unset, .unset, .unset, .unset] [(.int p1)])) _
      refine XS.iconst X72.here hx rfl (hb hby at_26) ?_
      show Steps p.tables e below (T72.setTop (mkF m 27 #[.val (.int p0), .val (.int p1), .val (.long q2), .second, .val (.long q3), .second, .val (.ref b1), .val (.int v75_0), .unset, .unset, .unset, .unset, .unset] [(.int (2 : Int32)), (.int p1)])) _
      refine XS.iand X72.here hx rfl (hb hby at_27) rfl ?_
      show Steps p.tables e below (T72.setTop (mkF m 28 #[.val (.int p0), .val (.int p1), .val (.long q2), .second, .val (.long q3), .second, .val (.ref b1), .val (.int v75_0), .unset, .unset, .unset, .unset, .unset] [(.int (p1 &&& (2 : Int32)))])) _
      exact Steps.refl _)
    obtain ⟨v80_0, hv80_0, S80⟩ : ∃ (v80_0 : Int32), (if (p1 &&& (2 : Int32)) = (0 : Int32) then (0 : Int32) else (1 : Int32)) = v80_0 ∧ Steps p.tables e below (T72.setTop (mkF m 28 #[.val (.int p0), .val (.int p1), .val (.long q2), .second, .val (.long q3), .second, .val (.ref b1), .val (.int v75_0), .unset, .unset, .unset, .unset, .unset] [(.int (p1 &&& (2 : Int32)))])) (T72.setTop (mkF m 36 #[.val (.int p0), .val (.int p1), .val (.long q2), .second, .val (.long q3), .second, .val (.ref b1), .val (.int v75_0), .unset, .unset, .unset, .unset, .unset] [(.int v80_0)])) := by
      have R80 : Steps p.tables e below (T72.setTop (mkF m 28 #[.val (.int p0), .val (.int p1), .val (.long q2), .second, .val (.long q3), .second, .val (.ref b1), .val (.int v75_0), .unset, .unset, .unset, .unset, .unset] [(.int (p1 &&& (2 : Int32)))])) (T72.setTop (mkF m 28 #[.val (.int p0), .val (.int p1), .val (.long q2), .second, .val (.long q3), .second, .val (.ref b1), .val (.int v75_0), .unset, .unset, .unset, .unset, .unset] [(.int (p1 &&& (2 : Int32)))])) := Steps.refl _
      by_cases hc28 : (p1 &&& (2 : Int32)) = (0 : Int32)
      · have K81 : Steps p.tables e below _ (T72.setTop (mkF m 36 #[.val (.int p0), .val (.int p1), .val (.long q2), .second, .val (.long q3), .second, .val (.ref b1), .val (.int v75_0), .unset, .unset, .unset, .unset, .unset] [(.int (0 : Int32))])) := R80.trans (by
          show Steps p.tables e below (T72.setTop (mkF m 28 #[.val (.int p0), .val (.int p1), .val (.long q2), .second, .val (.long q3), .second, .val (.ref b1), .val (.int v75_0), .unset, .unset, .unset, .unset, .unset] [(.int (p1 &&& (2 : Int32)))])) _
          refine XS.ifYes X72.here hx rfl (pc0 := 28) (pc' := 35) rfl (hb hby at_28) rfl ((if0 _ _).trans (teq hc28).1) (by decide) (by decide) ?_
          show Steps p.tables e below (T72.setTop (mkF m 35 #[.val (.int p0), .val (.int p1), .val (.long q2), .second, .val (.long q3), .second, .val (.ref b1), .val (.int v75_0), .unset, .unset, .unset, .unset, .unset] [])) _
          refine XS.iconst X72.here hx rfl (hb hby at_35) ?_
          show Steps p.tables e below (T72.setTop (mkF m 36 #[.val (.int p0), .val (.int p1), .val (.long q2), .second, .val (.long q3), .second, .val (.ref b1), .val (.int v75_0), .unset, .unset, .unset, .unset, .unset] [(.int (0 : Int32))])) _
          exact Steps.refl _)
        exact ⟨(0 : Int32), (by rw [if_pos hc28]), K81⟩
      · have K82 : Steps p.tables e below _ (T72.setTop (mkF m 36 #[.val (.int p0), .val (.int p1), .val (.long q2), .second, .val (.long q3), .second, .val (.ref b1), .val (.int v75_0), .unset, .unset, .unset, .unset, .unset] [(.int (1 : Int32))])) := R80.trans (by
          show Steps p.tables e below (T72.setTop (mkF m 28 #[.val (.int p0), .val (.int p1), .val (.long q2), .second, .val (.long q3), .second, .val (.ref b1), .val (.int v75_0), .unset, .unset, .unset, .unset, .unset] [(.int (p1 &&& (2 : Int32)))])) _
          refine XS.ifNo X72.here hx rfl (hb hby at_28) rfl ((if0 _ _).trans (feq hc28).1) ?_
          show Steps p.tables e below (T72.setTop (mkF m 31 #[.val (.int p0), .val (.int p1), .val (.long q2), .second, .val (.long q3), .second, .val (.ref b1), .val (.int v75_0), .unset, .unset, .unset, .unset, .unset] [])) _
          refine XS.iconst X72.here hx rfl (hb hby at_31) ?_
          show Steps p.tables e below (T72.setTop (mkF m 32 #[.val (.int p0), .val (.int p1), .val (.long q2), .second, .val (.long q3), .second, .val (.ref b1), .val (.int v75_0), .unset, .unset, .unset, .unset, .unset] [(.int (1 : Int32))])) _
          refine XS.goto X72.here hx rfl (pc0 := 32) (pc' := 36) rfl (hb hby at_32) (by decide) (by decide) ?_
          show Steps p.tables e below (T72.setTop (mkF m 36 #[.val (.int p0), .val (.int p1), .val (.long q2), .second, .val (.long q3), .second, .val (.ref b1), .val (.int v75_0), .unset, .unset, .unset, .unset, .unset] [(.int (1 : Int32))])) _
          exact Steps.refl _)
        exact ⟨(1 : Int32), (by rw [if_neg hc28]), K82⟩
    have K83 := K79.trans S80
    have K84 : Steps p.tables e below _ (T72.setTop (mkF m 41 #[.val (.int p0), .val (.int p1), .val (.long q2), .second, .val (.long q3), .second, .val (.ref b1), .val (.int v75_0), .val (.int v80_0), .unset, .unset, .unset, .unset] [(.int (p1 &&& (4 : Int32)))])) := K83.trans (by
      show Steps p.tables e below (T72.setTop (mkF m 36 #[.val (.int p0), .val (.int p1), .val (.long q2), .second, .val (.long q3), .second, .val (.ref b1), .val (.int v75_0), .unset, .unset, .unset, .unset, .unset] [(.int v80_0)])) _
      refine XS.istore X72.here hx rfl (hb hby at_36) rfl (l' := #[.val (.int p0), .val (.int p1), .val (.long q2), .second, .val (.long q3), .second, .val (.ref b1), .val (.int v75_0), .val (.int v80_0), .unset, .unset, .unset, .unset]) rfl ?_
      show Steps p.tables e below (T72.setTop (mkF m 38 #[.val (.int p0), .val (.int p1), .val (.long q2), .second, .val (.long q3), .second, .val (.ref b1), .val (.int v75_0), .val (.int v80_0), .unset, .unset, .unset, .unset] [])) _
      refine XS.iloadN X72.here hx rfl (hb hby at_38) rfl ?_
      show Steps p.tables e below (T72.setTop (mkF m 39 #[.val (.int p0), .val (.int p1), .val (.long q2), .second, .val (.long q3), .second, .val (.ref b1), .val (.int v75_0), .val (.int v80_0), .unset, .unset, .unset, .unset] [(.int p1)])) _
      refine XS.iconst X72.here hx rfl (hb hby at_39) ?_
      show Steps p.tables e below (T72.setTop (mkF m 40 #[.val (.int p0), .val (.int p1), .val (.long q2), .second, .val (.long q3), .second, .val (.ref b1), .val (.int v75_0), .val (.int v80_0), .unset, .unset, .unset, .unset] [(.int (4 : Int32)), (.int p1)])) _
      refine XS.iand X72.here hx rfl (hb hby at_40) rfl ?_
      show Steps p.tables e below (T72.setTop (mkF m 41 #[.val (.int p0), .val (.int p1), .val (.long q2), .second, .val (.long q3), .second, .val (.ref b1), .val (.int v75_0), .val (.int v80_0), .unset, .unset, .unset, .unset] [(.int (p1 &&& (4 : Int32)))])) _
      exact Steps.refl _)
    obtain ⟨v85_0, hv85_0, S85⟩ : ∃ (v85_0 : Int32), (if (p1 &&& (4 : Int32)) = (0 : Int32) then (0 : Int32) else (1 : Int32)) = v85_0 ∧ Steps p.tables e below (T72.setTop (mkF m 41 #[.val (.int p0), .val (.int p1), .val (.long q2), .second, .val (.long q3), .second, .val (.ref b1), .val (.int v75_0), .val (.int v80_0), .unset, .unset, .unset, .unset] [(.int (p1 &&& (4 : Int32)))])) (T72.setTop (mkF m 49 #[.val (.int p0), .val (.int p1), .val (.long q2), .second, .val (.long q3), .second, .val (.ref b1), .val (.int v75_0), .val (.int v80_0), .unset, .unset, .unset, .unset] [(.int v85_0)])) := by
      have R85 : Steps p.tables e below (T72.setTop (mkF m 41 #[.val (.int p0), .val (.int p1), .val (.long q2), .second, .val (.long q3), .second, .val (.ref b1), .val (.int v75_0), .val (.int v80_0), .unset, .unset, .unset, .unset] [(.int (p1 &&& (4 : Int32)))])) (T72.setTop (mkF m 41 #[.val (.int p0), .val (.int p1), .val (.long q2), .second, .val (.long q3), .second, .val (.ref b1), .val (.int v75_0), .val (.int v80_0), .unset, .unset, .unset, .unset] [(.int (p1 &&& (4 : Int32)))])) := Steps.refl _
      by_cases hc41 : (p1 &&& (4 : Int32)) = (0 : Int32)
      · have K86 : Steps p.tables e below _ (T72.setTop (mkF m 49 #[.val (.int p0), .val (.int p1), .val (.long q2), .second, .val (.long q3), .second, .val (.ref b1), .val (.int v75_0), .val (.int v80_0), .unset, .unset, .unset, .unset] [(.int (0 : Int32))])) := R85.trans (by
          show Steps p.tables e below (T72.setTop (mkF m 41 #[.val (.int p0), .val (.int p1), .val (.long q2), .second, .val (.long q3), .second, .val (.ref b1), .val (.int v75_0), .val (.int v80_0), .unset, .unset, .unset, .unset] [(.int (p1 &&& (4 : Int32)))])) _
          refine XS.ifYes X72.here hx rfl (pc0 := 41) (pc' := 48) rfl (hb hby at_41) rfl ((if0 _ _).trans (teq hc41).1) (by decide) (by decide) ?_
          show Steps p.tables e below (T72.setTop (mkF m 48 #[.val (.int p0), .val (.int p1), .val (.long q2), .second, .val (.long q3), .second, .val (.ref b1), .val (.int v75_0), .val (.int v80_0), .unset, .unset, .unset, .unset] [])) _
          refine XS.iconst X72.here hx rfl (hb hby at_48) ?_
          show Steps p.tables e below (T72.setTop (mkF m 49 #[.val (.int p0), .val (.int p1), .val (.long q2), .second, .val (.long q3), .second, .val (.ref b1), .val (.int v75_0), .val (.int v80_0), .unset, .unset, .unset, .unset] [(.int (0 : Int32))])) _
          exact Steps.refl _)
        exact ⟨(0 : Int32), (by rw [if_pos hc41]), K86⟩
      · have K87 : Steps p.tables e below _ (T72.setTop (mkF m 49 #[.val (.int p0), .val (.int p1), .val (.long q2), .second, .val (.long q3), .second, .val (.ref b1), .val (.int v75_0), .val (.int v80_0), .unset, .unset, .unset, .unset] [(.int (1 : Int32))])) := R85.trans (by
          show Steps p.tables e below (T72.setTop (mkF m 41 #[.val (.int p0), .val (.int p1), .val (.long q2), .second, .val (.long q3), .second, .val (.ref b1), .val (.int v75_0), .val (.int v80_0), .unset, .unset, .unset, .unset] [(.int (p1 &&& (4 : Int32)))])) _
          refine XS.ifNo X72.here hx rfl (hb hby at_41) rfl ((if0 _ _).trans (feq hc41).1) ?_
          show Steps p.tables e below (T72.setTop (mkF m 44 #[.val (.int p0), .val (.int p1), .val (.long q2), .second, .val (.long q3), .second, .val (.ref b1), .val (.int v75_0), .val (.int v80_0), .unset, .unset, .unset, .unset] [])) _
          refine XS.iconst X72.here hx rfl (hb hby at_44) ?_
          show Steps p.tables e below (T72.setTop (mkF m 45 #[.val (.int p0), .val (.int p1), .val (.long q2), .second, .val (.long q3), .second, .val (.ref b1), .val (.int v75_0), .val (.int v80_0), .unset, .unset, .unset, .unset] [(.int (1 : Int32))])) _
          refine XS.goto X72.here hx rfl (pc0 := 45) (pc' := 49) rfl (hb hby at_45) (by decide) (by decide) ?_
          show Steps p.tables e below (T72.setTop (mkF m 49 #[.val (.int p0), .val (.int p1), .val (.long q2), .second, .val (.long q3), .second, .val (.ref b1), .val (.int v75_0), .val (.int v80_0), .unset, .unset, .unset, .unset] [(.int (1 : Int32))])) _
          exact Steps.refl _)
        exact ⟨(1 : Int32), (by rw [if_neg hc41]), K87⟩
    have K88 := K84.trans S85
    have K89 : Steps p.tables e below _ (T72.setTop (mkF m 55 #[.val (.int p0), .val (.int p1), .val (.long q2), .second, .val (.long q3), .second, .val (.ref b1), .val (.int v75_0), .val (.int v80_0), .val (.int v85_0), .unset, .unset, .unset] [(.int (p1 &&& (8 : Int32)))])) := K88.trans (by
      show Steps p.tables e below (T72.setTop (mkF m 49 #[.val (.int p0), .val (.int p1), .val (.long q2), .second, .val (.long q3), .second, .val (.ref b1), .val (.int v75_0), .val (.int v80_0), .unset, .unset, .unset, .unset] [(.int v85_0)])) _
      refine XS.istore X72.here hx rfl (hb hby at_49) rfl (l' := #[.val (.int p0), .val (.int p1), .val (.long q2), .second, .val (.long q3), .second, .val (.ref b1), .val (.int v75_0), .val (.int v80_0), .val (.int v85_0), .unset, .unset, .unset]) rfl ?_
      show Steps p.tables e below (T72.setTop (mkF m 51 #[.val (.int p0), .val (.int p1), .val (.long q2), .second, .val (.long q3), .second, .val (.ref b1), .val (.int v75_0), .val (.int v80_0), .val (.int v85_0), .unset, .unset, .unset] [])) _
      refine XS.iloadN X72.here hx rfl (hb hby at_51) rfl ?_
      show Steps p.tables e below (T72.setTop (mkF m 52 #[.val (.int p0), .val (.int p1), .val (.long q2), .second, .val (.long q3), .second, .val (.ref b1), .val (.int v75_0), .val (.int v80_0), .val (.int v85_0), .unset, .unset, .unset] [(.int p1)])) _
      refine XS.bipush X72.here hx rfl (hb hby at_52) ?_
      show Steps p.tables e below (T72.setTop (mkF m 54 #[.val (.int p0), .val (.int p1), .val (.long q2), .second, .val (.long q3), .second, .val (.ref b1), .val (.int v75_0), .val (.int v80_0), .val (.int v85_0), .unset, .unset, .unset] [(.int (8 : Int32)), (.int p1)])) _
      refine XS.iand X72.here hx rfl (hb hby at_54) rfl ?_
      show Steps p.tables e below (T72.setTop (mkF m 55 #[.val (.int p0), .val (.int p1), .val (.long q2), .second, .val (.long q3), .second, .val (.ref b1), .val (.int v75_0), .val (.int v80_0), .val (.int v85_0), .unset, .unset, .unset] [(.int (p1 &&& (8 : Int32)))])) _
      exact Steps.refl _)
    obtain ⟨v90_0, hv90_0, S90⟩ : ∃ (v90_0 : Int32), (if (p1 &&& (8 : Int32)) = (0 : Int32) then (0 : Int32) else (1 : Int32)) = v90_0 ∧ Steps p.tables e below (T72.setTop (mkF m 55 #[.val (.int p0), .val (.int p1), .val (.long q2), .second, .val (.long q3), .second, .val (.ref b1), .val (.int v75_0), .val (.int v80_0), .val (.int v85_0), .unset, .unset, .unset] [(.int (p1 &&& (8 : Int32)))])) (T72.setTop (mkF m 63 #[.val (.int p0), .val (.int p1), .val (.long q2), .second, .val (.long q3), .second, .val (.ref b1), .val (.int v75_0), .val (.int v80_0), .val (.int v85_0), .unset, .unset, .unset] [(.int v90_0)])) := by
      have R90 : Steps p.tables e below (T72.setTop (mkF m 55 #[.val (.int p0), .val (.int p1), .val (.long q2), .second, .val (.long q3), .second, .val (.ref b1), .val (.int v75_0), .val (.int v80_0), .val (.int v85_0), .unset, .unset, .unset] [(.int (p1 &&& (8 : Int32)))])) (T72.setTop (mkF m 55 #[.val (.int p0), .val (.int p1), .val (.long q2), .second, .val (.long q3), .second, .val (.ref b1), .val (.int v75_0), .val (.int v80_0), .val (.int v85_0), .unset, .unset, .unset] [(.int (p1 &&& (8 : Int32)))])) := Steps.refl _
      by_cases hc55 : (p1 &&& (8 : Int32)) = (0 : Int32)
      · have K91 : Steps p.tables e below _ (T72.setTop (mkF m 63 #[.val (.int p0), .val (.int p1), .val (.long q2), .second, .val (.long q3), .second, .val (.ref b1), .val (.int v75_0), .val (.int v80_0), .val (.int v85_0), .unset, .unset, .unset] [(.int (0 : Int32))])) := R90.trans (by
          show Steps p.tables e below (T72.setTop (mkF m 55 #[.val (.int p0), .val (.int p1), .val (.long q2), .second, .val (.long q3), .second, .val (.ref b1), .val (.int v75_0), .val (.int v80_0), .val (.int v85_0), .unset, .unset, .unset] [(.int (p1 &&& (8 : Int32)))])) _
          refine XS.ifYes X72.here hx rfl (pc0 := 55) (pc' := 62) rfl (hb hby at_55) rfl ((if0 _ _).trans (teq hc55).1) (by decide) (by decide) ?_
          show Steps p.tables e below (T72.setTop (mkF m 62 #[.val (.int p0), .val (.int p1), .val (.long q2), .second, .val (.long q3), .second, .val (.ref b1), .val (.int v75_0), .val (.int v80_0), .val (.int v85_0), .unset, .unset, .unset] [])) _
          refine XS.iconst X72.here hx rfl (hb hby at_62) ?_
          show Steps p.tables e below (T72.setTop (mkF m 63 #[.val (.int p0), .val (.int p1), .val (.long q2), .second, .val (.long q3), .second, .val (.ref b1), .val (.int v75_0), .val (.int v80_0), .val (.int v85_0), .unset, .unset, .unset] [(.int (0 : Int32))])) _
          exact Steps.refl _)
        exact ⟨(0 : Int32), (by rw [if_pos hc55]), K91⟩
      · have K92 : Steps p.tables e below _ (T72.setTop (mkF m 63 #[.val (.int p0), .val (.int p1), .val (.long q2), .second, .val (.long q3), .second, .val (.ref b1), .val (.int v75_0), .val (.int v80_0), .val (.int v85_0), .unset, .unset, .unset] [(.int (1 : Int32))])) := R90.trans (by
          show Steps p.tables e below (T72.setTop (mkF m 55 #[.val (.int p0), .val (.int p1), .val (.long q2), .second, .val (.long q3), .second, .val (.ref b1), .val (.int v75_0), .val (.int v80_0), .val (.int v85_0), .unset, .unset, .unset] [(.int (p1 &&& (8 : Int32)))])) _
          refine XS.ifNo X72.here hx rfl (hb hby at_55) rfl ((if0 _ _).trans (feq hc55).1) ?_
          show Steps p.tables e below (T72.setTop (mkF m 58 #[.val (.int p0), .val (.int p1), .val (.long q2), .second, .val (.long q3), .second, .val (.ref b1), .val (.int v75_0), .val (.int v80_0), .val (.int v85_0), .unset, .unset, .unset] [])) _
          refine XS.iconst X72.here hx rfl (hb hby at_58) ?_
          show Steps p.tables e below (T72.setTop (mkF m 59 #[.val (.int p0), .val (.int p1), .val (.long q2), .second, .val (.long q3), .second, .val (.ref b1), .val (.int v75_0), .val (.int v80_0), .val (.int v85_0), .unset, .unset, .unset] [(.int (1 : Int32))])) _
          refine XS.goto X72.here hx rfl (pc0 := 59) (pc' := 63) rfl (hb hby at_59) (by decide) (by decide) ?_
          show Steps p.tables e below (T72.setTop (mkF m 63 #[.val (.int p0), .val (.int p1), .val (.long q2), .second, .val (.long q3), .second, .val (.ref b1), .val (.int v75_0), .val (.int v80_0), .val (.int v85_0), .unset, .unset, .unset] [(.int (1 : Int32))])) _
          exact Steps.refl _)
        exact ⟨(1 : Int32), (by rw [if_neg hc55]), K92⟩
    have K93 := K89.trans S90
    have K94 : Steps p.tables e below _ (T72.setTop (mkF m 69 #[.val (.int p0), .val (.int p1), .val (.long q2), .second, .val (.long q3), .second, .val (.ref b1), .val (.int v75_0), .val (.int v80_0), .val (.int v85_0), .val (.int v90_0), .unset, .unset] [(.int (p1 &&& (16 : Int32)))])) := K93.trans (by
      show Steps p.tables e below (T72.setTop (mkF m 63 #[.val (.int p0), .val (.int p1), .val (.long q2), .second, .val (.long q3), .second, .val (.ref b1), .val (.int v75_0), .val (.int v80_0), .val (.int v85_0), .unset, .unset, .unset] [(.int v90_0)])) _
      refine XS.istore X72.here hx rfl (hb hby at_63) rfl (l' := #[.val (.int p0), .val (.int p1), .val (.long q2), .second, .val (.long q3), .second, .val (.ref b1), .val (.int v75_0), .val (.int v80_0), .val (.int v85_0), .val (.int v90_0), .unset, .unset]) rfl ?_
      show Steps p.tables e below (T72.setTop (mkF m 65 #[.val (.int p0), .val (.int p1), .val (.long q2), .second, .val (.long q3), .second, .val (.ref b1), .val (.int v75_0), .val (.int v80_0), .val (.int v85_0), .val (.int v90_0), .unset, .unset] [])) _
      refine XS.iloadN X72.here hx rfl (hb hby at_65) rfl ?_
      show Steps p.tables e below (T72.setTop (mkF m 66 #[.val (.int p0), .val (.int p1), .val (.long q2), .second, .val (.long q3), .second, .val (.ref b1), .val (.int v75_0), .val (.int v80_0), .val (.int v85_0), .val (.int v90_0), .unset, .unset] [(.int p1)])) _
      refine XS.bipush X72.here hx rfl (hb hby at_66) ?_
      show Steps p.tables e below (T72.setTop (mkF m 68 #[.val (.int p0), .val (.int p1), .val (.long q2), .second, .val (.long q3), .second, .val (.ref b1), .val (.int v75_0), .val (.int v80_0), .val (.int v85_0), .val (.int v90_0), .unset, .unset] [(.int (16 : Int32)), (.int p1)])) _
      refine XS.iand X72.here hx rfl (hb hby at_68) rfl ?_
      show Steps p.tables e below (T72.setTop (mkF m 69 #[.val (.int p0), .val (.int p1), .val (.long q2), .second, .val (.long q3), .second, .val (.ref b1), .val (.int v75_0), .val (.int v80_0), .val (.int v85_0), .val (.int v90_0), .unset, .unset] [(.int (p1 &&& (16 : Int32)))])) _
      exact Steps.refl _)
    obtain ⟨v95_0, hv95_0, S95⟩ : ∃ (v95_0 : Int32), (if (p1 &&& (16 : Int32)) = (0 : Int32) then (0 : Int32) else (1 : Int32)) = v95_0 ∧ Steps p.tables e below (T72.setTop (mkF m 69 #[.val (.int p0), .val (.int p1), .val (.long q2), .second, .val (.long q3), .second, .val (.ref b1), .val (.int v75_0), .val (.int v80_0), .val (.int v85_0), .val (.int v90_0), .unset, .unset] [(.int (p1 &&& (16 : Int32)))])) (T72.setTop (mkF m 77 #[.val (.int p0), .val (.int p1), .val (.long q2), .second, .val (.long q3), .second, .val (.ref b1), .val (.int v75_0), .val (.int v80_0), .val (.int v85_0), .val (.int v90_0), .unset, .unset] [(.int v95_0)])) := by
      have R95 : Steps p.tables e below (T72.setTop (mkF m 69 #[.val (.int p0), .val (.int p1), .val (.long q2), .second, .val (.long q3), .second, .val (.ref b1), .val (.int v75_0), .val (.int v80_0), .val (.int v85_0), .val (.int v90_0), .unset, .unset] [(.int (p1 &&& (16 : Int32)))])) (T72.setTop (mkF m 69 #[.val (.int p0), .val (.int p1), .val (.long q2), .second, .val (.long q3), .second, .val (.ref b1), .val (.int v75_0), .val (.int v80_0), .val (.int v85_0), .val (.int v90_0), .unset, .unset] [(.int (p1 &&& (16 : Int32)))])) := Steps.refl _
      by_cases hc69 : (p1 &&& (16 : Int32)) = (0 : Int32)
      · have K96 : Steps p.tables e below _ (T72.setTop (mkF m 77 #[.val (.int p0), .val (.int p1), .val (.long q2), .second, .val (.long q3), .second, .val (.ref b1), .val (.int v75_0), .val (.int v80_0), .val (.int v85_0), .val (.int v90_0), .unset, .unset] [(.int (0 : Int32))])) := R95.trans (by
          show Steps p.tables e below (T72.setTop (mkF m 69 #[.val (.int p0), .val (.int p1), .val (.long q2), .second, .val (.long q3), .second, .val (.ref b1), .val (.int v75_0), .val (.int v80_0), .val (.int v85_0), .val (.int v90_0), .unset, .unset] [(.int (p1 &&& (16 : Int32)))])) _
          refine XS.ifYes X72.here hx rfl (pc0 := 69) (pc' := 76) rfl (hb hby at_69) rfl ((if0 _ _).trans (teq hc69).1) (by decide) (by decide) ?_
          show Steps p.tables e below (T72.setTop (mkF m 76 #[.val (.int p0), .val (.int p1), .val (.long q2), .second, .val (.long q3), .second, .val (.ref b1), .val (.int v75_0), .val (.int v80_0), .val (.int v85_0), .val (.int v90_0), .unset, .unset] [])) _
          refine XS.iconst X72.here hx rfl (hb hby at_76) ?_
          show Steps p.tables e below (T72.setTop (mkF m 77 #[.val (.int p0), .val (.int p1), .val (.long q2), .second, .val (.long q3), .second, .val (.ref b1), .val (.int v75_0), .val (.int v80_0), .val (.int v85_0), .val (.int v90_0), .unset, .unset] [(.int (0 : Int32))])) _
          exact Steps.refl _)
        exact ⟨(0 : Int32), (by rw [if_pos hc69]), K96⟩
      · have K97 : Steps p.tables e below _ (T72.setTop (mkF m 77 #[.val (.int p0), .val (.int p1), .val (.long q2), .second, .val (.long q3), .second, .val (.ref b1), .val (.int v75_0), .val (.int v80_0), .val (.int v85_0), .val (.int v90_0), .unset, .unset] [(.int (1 : Int32))])) := R95.trans (by
          show Steps p.tables e below (T72.setTop (mkF m 69 #[.val (.int p0), .val (.int p1), .val (.long q2), .second, .val (.long q3), .second, .val (.ref b1), .val (.int v75_0), .val (.int v80_0), .val (.int v85_0), .val (.int v90_0), .unset, .unset] [(.int (p1 &&& (16 : Int32)))])) _
          refine XS.ifNo X72.here hx rfl (hb hby at_69) rfl ((if0 _ _).trans (feq hc69).1) ?_
          show Steps p.tables e below (T72.setTop (mkF m 72 #[.val (.int p0), .val (.int p1), .val (.long q2), .second, .val (.long q3), .second, .val (.ref b1), .val (.int v75_0), .val (.int v80_0), .val (.int v85_0), .val (.int v90_0), .unset, .unset] [])) _
          refine XS.iconst X72.here hx rfl (hb hby at_72) ?_
          show Steps p.tables e below (T72.setTop (mkF m 73 #[.val (.int p0), .val (.int p1), .val (.long q2), .second, .val (.long q3), .second, .val (.ref b1), .val (.int v75_0), .val (.int v80_0), .val (.int v85_0), .val (.int v90_0), .unset, .unset] [(.int (1 : Int32))])) _
          refine XS.goto X72.here hx rfl (pc0 := 73) (pc' := 77) rfl (hb hby at_73) (by decide) (by decide) ?_
          show Steps p.tables e below (T72.setTop (mkF m 77 #[.val (.int p0), .val (.int p1), .val (.long q2), .second, .val (.long q3), .second, .val (.ref b1), .val (.int v75_0), .val (.int v80_0), .val (.int v85_0), .val (.int v90_0), .unset, .unset] [(.int (1 : Int32))])) _
          exact Steps.refl _)
        exact ⟨(1 : Int32), (by rw [if_neg hc69]), K97⟩
    have K98 := K94.trans S95
    have K99 : Steps p.tables e below _ (T72.setTop (mkF m 83 #[.val (.int p0), .val (.int p1), .val (.long q2), .second, .val (.long q3), .second, .val (.ref b1), .val (.int v75_0), .val (.int v80_0), .val (.int v85_0), .val (.int v90_0), .val (.int v95_0), .unset] [(.int (p1 &&& (32 : Int32)))])) := K98.trans (by
      show Steps p.tables e below (T72.setTop (mkF m 77 #[.val (.int p0), .val (.int p1), .val (.long q2), .second, .val (.long q3), .second, .val (.ref b1), .val (.int v75_0), .val (.int v80_0), .val (.int v85_0), .val (.int v90_0), .unset, .unset] [(.int v95_0)])) _
      refine XS.istore X72.here hx rfl (hb hby at_77) rfl (l' := #[.val (.int p0), .val (.int p1), .val (.long q2), .second, .val (.long q3), .second, .val (.ref b1), .val (.int v75_0), .val (.int v80_0), .val (.int v85_0), .val (.int v90_0), .val (.int v95_0), .unset]) rfl ?_
      show Steps p.tables e below (T72.setTop (mkF m 79 #[.val (.int p0), .val (.int p1), .val (.long q2), .second, .val (.long q3), .second, .val (.ref b1), .val (.int v75_0), .val (.int v80_0), .val (.int v85_0), .val (.int v90_0), .val (.int v95_0), .unset] [])) _
      refine XS.iloadN X72.here hx rfl (hb hby at_79) rfl ?_
      show Steps p.tables e below (T72.setTop (mkF m 80 #[.val (.int p0), .val (.int p1), .val (.long q2), .second, .val (.long q3), .second, .val (.ref b1), .val (.int v75_0), .val (.int v80_0), .val (.int v85_0), .val (.int v90_0), .val (.int v95_0), .unset] [(.int p1)])) _
      refine XS.bipush X72.here hx rfl (hb hby at_80) ?_
      show Steps p.tables e below (T72.setTop (mkF m 82 #[.val (.int p0), .val (.int p1), .val (.long q2), .second, .val (.long q3), .second, .val (.ref b1), .val (.int v75_0), .val (.int v80_0), .val (.int v85_0), .val (.int v90_0), .val (.int v95_0), .unset] [(.int (32 : Int32)), (.int p1)])) _
      refine XS.iand X72.here hx rfl (hb hby at_82) rfl ?_
      show Steps p.tables e below (T72.setTop (mkF m 83 #[.val (.int p0), .val (.int p1), .val (.long q2), .second, .val (.long q3), .second, .val (.ref b1), .val (.int v75_0), .val (.int v80_0), .val (.int v85_0), .val (.int v90_0), .val (.int v95_0), .unset] [(.int (p1 &&& (32 : Int32)))])) _
      exact Steps.refl _)
    obtain ⟨v100_0, hv100_0, S100⟩ : ∃ (v100_0 : Int32), (if (p1 &&& (32 : Int32)) = (0 : Int32) then (0 : Int32) else (1 : Int32)) = v100_0 ∧ Steps p.tables e below (T72.setTop (mkF m 83 #[.val (.int p0), .val (.int p1), .val (.long q2), .second, .val (.long q3), .second, .val (.ref b1), .val (.int v75_0), .val (.int v80_0), .val (.int v85_0), .val (.int v90_0), .val (.int v95_0), .unset] [(.int (p1 &&& (32 : Int32)))])) (T72.setTop (mkF m 91 #[.val (.int p0), .val (.int p1), .val (.long q2), .second, .val (.long q3), .second, .val (.ref b1), .val (.int v75_0), .val (.int v80_0), .val (.int v85_0), .val (.int v90_0), .val (.int v95_0), .unset] [(.int v100_0)])) := by
      have R100 : Steps p.tables e below (T72.setTop (mkF m 83 #[.val (.int p0), .val (.int p1), .val (.long q2), .second, .val (.long q3), .second, .val (.ref b1), .val (.int v75_0), .val (.int v80_0), .val (.int v85_0), .val (.int v90_0), .val (.int v95_0), .unset] [(.int (p1 &&& (32 : Int32)))])) (T72.setTop (mkF m 83 #[.val (.int p0), .val (.int p1), .val (.long q2), .second, .val (.long q3), .second, .val (.ref b1), .val (.int v75_0), .val (.int v80_0), .val (.int v85_0), .val (.int v90_0), .val (.int v95_0), .unset] [(.int (p1 &&& (32 : Int32)))])) := Steps.refl _
      by_cases hc83 : (p1 &&& (32 : Int32)) = (0 : Int32)
      · have K101 : Steps p.tables e below _ (T72.setTop (mkF m 91 #[.val (.int p0), .val (.int p1), .val (.long q2), .second, .val (.long q3), .second, .val (.ref b1), .val (.int v75_0), .val (.int v80_0), .val (.int v85_0), .val (.int v90_0), .val (.int v95_0), .unset] [(.int (0 : Int32))])) := R100.trans (by
          show Steps p.tables e below (T72.setTop (mkF m 83 #[.val (.int p0), .val (.int p1), .val (.long q2), .second, .val (.long q3), .second, .val (.ref b1), .val (.int v75_0), .val (.int v80_0), .val (.int v85_0), .val (.int v90_0), .val (.int v95_0), .unset] [(.int (p1 &&& (32 : Int32)))])) _
          refine XS.ifYes X72.here hx rfl (pc0 := 83) (pc' := 90) rfl (hb hby at_83) rfl ((if0 _ _).trans (teq hc83).1) (by decide) (by decide) ?_
          show Steps p.tables e below (T72.setTop (mkF m 90 #[.val (.int p0), .val (.int p1), .val (.long q2), .second, .val (.long q3), .second, .val (.ref b1), .val (.int v75_0), .val (.int v80_0), .val (.int v85_0), .val (.int v90_0), .val (.int v95_0), .unset] [])) _
          refine XS.iconst X72.here hx rfl (hb hby at_90) ?_
          show Steps p.tables e below (T72.setTop (mkF m 91 #[.val (.int p0), .val (.int p1), .val (.long q2), .second, .val (.long q3), .second, .val (.ref b1), .val (.int v75_0), .val (.int v80_0), .val (.int v85_0), .val (.int v90_0), .val (.int v95_0), .unset] [(.int (0 : Int32))])) _
          exact Steps.refl _)
        exact ⟨(0 : Int32), (by rw [if_pos hc83]), K101⟩
      · have K102 : Steps p.tables e below _ (T72.setTop (mkF m 91 #[.val (.int p0), .val (.int p1), .val (.long q2), .second, .val (.long q3), .second, .val (.ref b1), .val (.int v75_0), .val (.int v80_0), .val (.int v85_0), .val (.int v90_0), .val (.int v95_0), .unset] [(.int (1 : Int32))])) := R100.trans (by
          show Steps p.tables e below (T72.setTop (mkF m 83 #[.val (.int p0), .val (.int p1), .val (.long q2), .second, .val (.long q3), .second, .val (.ref b1), .val (.int v75_0), .val (.int v80_0), .val (.int v85_0), .val (.int v90_0), .val (.int v95_0), .unset] [(.int (p1 &&& (32 : Int32)))])) _
          refine XS.ifNo X72.here hx rfl (hb hby at_83) rfl ((if0 _ _).trans (feq hc83).1) ?_
          show Steps p.tables e below (T72.setTop (mkF m 86 #[.val (.int p0), .val (.int p1), .val (.long q2), .second, .val (.long q3), .second, .val (.ref b1), .val (.int v75_0), .val (.int v80_0), .val (.int v85_0), .val (.int v90_0), .val (.int v95_0), .unset] [])) _
          refine XS.iconst X72.here hx rfl (hb hby at_86) ?_
          show Steps p.tables e below (T72.setTop (mkF m 87 #[.val (.int p0), .val (.int p1), .val (.long q2), .second, .val (.long q3), .second, .val (.ref b1), .val (.int v75_0), .val (.int v80_0), .val (.int v85_0), .val (.int v90_0), .val (.int v95_0), .unset] [(.int (1 : Int32))])) _
          refine XS.goto X72.here hx rfl (pc0 := 87) (pc' := 91) rfl (hb hby at_87) (by decide) (by decide) ?_
          show Steps p.tables e below (T72.setTop (mkF m 91 #[.val (.int p0), .val (.int p1), .val (.long q2), .second, .val (.long q3), .second, .val (.ref b1), .val (.int v75_0), .val (.int v80_0), .val (.int v85_0), .val (.int v90_0), .val (.int v95_0), .unset] [(.int (1 : Int32))])) _
          exact Steps.refl _)
        exact ⟨(1 : Int32), (by rw [if_neg hc83]), K102⟩
    have K103 := K99.trans S100
    have K104 : Steps p.tables e below _ (T72.setTop (mkF m 102 #[.val (.int p0), .val (.int p1), .val (.long q2), .second, .val (.long q3), .second, .val (.ref b1), .val (.int v75_0), .val (.int v80_0), .val (.int v85_0), .val (.int v90_0), .val (.int v95_0), .val (.int v100_0)] [(.long q3), (.int v80_0), (.long q2), (.int v75_0), (.ref b1)])) := K103.trans (by
      show Steps p.tables e below (T72.setTop (mkF m 91 #[.val (.int p0), .val (.int p1), .val (.long q2), .second, .val (.long q3), .second, .val (.ref b1), .val (.int v75_0), .val (.int v80_0), .val (.int v85_0), .val (.int v90_0), .val (.int v95_0), .unset] [(.int v100_0)])) _
      refine XS.istore X72.here hx rfl (hb hby at_91) rfl (l' := #[.val (.int p0), .val (.int p1), .val (.long q2), .second, .val (.long q3), .second, .val (.ref b1), .val (.int v75_0), .val (.int v80_0), .val (.int v85_0), .val (.int v90_0), .val (.int v95_0), .val (.int v100_0)]) rfl ?_
      show Steps p.tables e below (T72.setTop (mkF m 93 #[.val (.int p0), .val (.int p1), .val (.long q2), .second, .val (.long q3), .second, .val (.ref b1), .val (.int v75_0), .val (.int v80_0), .val (.int v85_0), .val (.int v90_0), .val (.int v95_0), .val (.int v100_0)] [])) _
      refine XS.aload X72.here hx rfl (hb hby at_93) rfl rfl ?_
      show Steps p.tables e below (T72.setTop (mkF m 95 #[.val (.int p0), .val (.int p1), .val (.long q2), .second, .val (.long q3), .second, .val (.ref b1), .val (.int v75_0), .val (.int v80_0), .val (.int v85_0), .val (.int v90_0), .val (.int v95_0), .val (.int v100_0)] [(.ref b1)])) _
      refine XS.iload X72.here hx rfl (hb hby at_95) rfl ?_
      show Steps p.tables e below (T72.setTop (mkF m 97 #[.val (.int p0), .val (.int p1), .val (.long q2), .second, .val (.long q3), .second, .val (.ref b1), .val (.int v75_0), .val (.int v80_0), .val (.int v85_0), .val (.int v90_0), .val (.int v95_0), .val (.int v100_0)] [(.int v75_0), (.ref b1)])) _
      refine XS.lloadN X72.here hx rfl (hb hby at_97) rfl ?_
      show Steps p.tables e below (T72.setTop (mkF m 98 #[.val (.int p0), .val (.int p1), .val (.long q2), .second, .val (.long q3), .second, .val (.ref b1), .val (.int v75_0), .val (.int v80_0), .val (.int v85_0), .val (.int v90_0), .val (.int v95_0), .val (.int v100_0)] [(.long q2), (.int v75_0), (.ref b1)])) _
      refine XS.iload X72.here hx rfl (hb hby at_98) rfl ?_
      show Steps p.tables e below (T72.setTop (mkF m 100 #[.val (.int p0), .val (.int p1), .val (.long q2), .second, .val (.long q3), .second, .val (.ref b1), .val (.int v75_0), .val (.int v80_0), .val (.int v85_0), .val (.int v90_0), .val (.int v95_0), .val (.int v100_0)] [(.int v80_0), (.long q2), (.int v75_0), (.ref b1)])) _
      refine XS.lload X72.here hx rfl (hb hby at_100) rfl ?_
      show Steps p.tables e below (T72.setTop (mkF m 102 #[.val (.int p0), .val (.int p1), .val (.long q2), .second, .val (.long q3), .second, .val (.ref b1), .val (.int v75_0), .val (.int v80_0), .val (.int v85_0), .val (.int v90_0), .val (.int v95_0), .val (.int v100_0)] [(.long q3), (.int v80_0), (.long q2), (.int v75_0), (.ref b1)])) _
      exact Steps.refl _)
    have Z_105 : n0 ≤ T72.heap.size := (Nat.le_trans Z_71 Kp72.1)
    obtain ⟨cq106, kq106, q106a, q106b, q106c⟩ := isOf hZ rfl Q72_0
    obtain ⟨_, _, ⟨T106, L106, k106, n106⟩, -, X106, ⟨Lc106, hQ106, l106, y106, z106⟩, st106⟩ := X72.virtualBack hx (y := (⟨"com/example/spanfold/spanfold/RangeList", "add", "(ZJZJ)V"⟩ : MethodName)) (z := (⟨"com/example/spanfold/spanfold/RangeList", "add", "(ZJZJ)V"⟩ : MethodName)) hown (mvT hZ (hw _ (List.mem_of_getElem? (i := 17) rfl))) (mvT hZ (hw _ (List.mem_of_getElem? (i := 18) rfl))) (notFace_of_selects (args := #[]) (mvT hZ (hw _ (List.mem_of_getElem? (i := 20) rfl)))) (mvT hZ (hw _ (List.mem_of_getElem? (i := 20) rfl))) (mvT hZ (hw _ (List.mem_of_getElem? (i := 19) rfl))) (by decide) (backOf (W := 0) (rm3n l Z a0 hw [] b1 v75_0 q2 v80_0 q3 b72_b5 b72_b12 b72_b23 k5_72 k12_72 k23_72 (1 : Int32) (List.replicate 3 (.long (0 : Int64))) (List.replicate 3 (.long (0 : Int64))) (List.replicate 3 (.int (0 : Int32))) (0 : Int32) 0 T72.heap n0 Z_105 Q72_0 Q72_4 Q72_7 Q72_10 Q72_1 Q72_2 Q72_5 Q72_8 ne_b1_b72_b5 ne_b1_b72_b12 ne_b1_b72_b23 ne72_14 ne72_15 ne72_16 ge_b1 ge_b72_b5 ge_b72_b12 ge_b72_b23 (by decide) (by decide) (rfl) (Nat.le_of_ble_eq_true rfl) (Nat.le_of_ble_eq_true rfl) (Nat.le_of_ble_eq_true rfl)) hZ (hw _ (List.mem_of_getElem? (i := 21) rfl)) (hw _ (List.mem_of_getElem? (i := 2) rfl)) (by decide) (by decide)) q106a q106c (g := (mkF m 102 #[.val (.int p0), .val (.int p1), .val (.long q2), .second, .val (.long q3), .second, .val (.ref b1), .val (.int v75_0), .val (.int v80_0), .val (.int v85_0), .val (.int v90_0), .val (.int v95_0), .val (.int v100_0)] [(.long q3), (.int v80_0), (.long q2), (.int v75_0), (.ref b1)])) rfl (by rw [hml]; rfl) K104 (argsL := [(.int v75_0), (.long q2), (.int v80_0), (.long q3)]) (rest := []) (lenOf pd_5 rfl) rfl (by show 2 * 0 + _ ≤ _; exact Nat.le_of_eq rfl) (hb hby at_102) (fun _ _ => ⟨rfl, rfl, (by decide : 4 + 0 ≤ _), (by decide : 13 + 0 ≤ _)⟩)
    dsimp only [Pt.U, Pt.locs, Pt.cells, Pt.slots] at X106 l106 y106 z106 st106 hQ106
    subst l106 y106 z106
    obtain ⟨rfl, N106, Kp106, Q106_0, Q106_1, Q106_2, Q106_3, Q106_4, Q106_5, Q106_6, Q106_7⟩ := hQ106
    have Q106_4f : Fld Z T106.heap b1 "com/example/spanfold/spanfold/RangeList" "size" "I" (.int (1 : Int32)) := Q106_4
    have N106' := Fr.app N72' N106
    have K107 : Steps p.tables e below _ (T106.setTop (mkF m 105 #[.val (.int p0), .val (.int p1), .val (.long q2), .second, .val (.long q3), .second, .val (.ref b1), .val (.int v75_0), .val (.int v80_0), .val (.int v85_0), .val (.int v90_0), .val (.int v95_0), .val (.int v100_0)] [])) := st106
    have K108 : Steps p.tables e below _ (T106.setTop (mkF m 114 #[.val (.int p0), .val (.int p1), .val (.long q2), .second, .val (.long q3), .second, .val (.ref b1), .val (.int v75_0), .val (.int v80_0), .val (.int v85_0), .val (.int v90_0), .val (.int v95_0), .val (.int v100_0)] [(.long q2), (.int v90_0), (.long q3), (.int v85_0), (.ref b1)])) := K107.trans (by
      show Steps p.tables e below (T106.setTop (mkF m 105 #[.val (.int p0), .val (.int p1), .val (.long q2), .second, .val (.long q3), .second, .val (.ref b1), .val (.int v75_0), .val (.int v80_0), .val (.int v85_0), .val (.int v90_0), .val (.int v95_0), .val (.int v100_0)] [])) _
      refine XS.aload X106.here hx rfl (hb hby at_105) rfl rfl ?_
      show Steps p.tables e below (T106.setTop (mkF m 107 #[.val (.int p0), .val (.int p1), .val (.long q2), .second, .val (.long q3), .second, .val (.ref b1), .val (.int v75_0), .val (.int v80_0), .val (.int v85_0), .val (.int v90_0), .val (.int v95_0), .val (.int v100_0)] [(.ref b1)])) _
      refine XS.iload X106.here hx rfl (hb hby at_107) rfl ?_
      show Steps p.tables e below (T106.setTop (mkF m 109 #[.val (.int p0), .val (.int p1), .val (.long q2), .second, .val (.long q3), .second, .val (.ref b1), .val (.int v75_0), .val (.int v80_0), .val (.int v85_0), .val (.int v90_0), .val (.int v95_0), .val (.int v100_0)] [(.int v85_0), (.ref b1)])) _
      refine XS.lload X106.here hx rfl (hb hby at_109) rfl ?_
      show Steps p.tables e below (T106.setTop (mkF m 111 #[.val (.int p0), .val (.int p1), .val (.long q2), .second, .val (.long q3), .second, .val (.ref b1), .val (.int v75_0), .val (.int v80_0), .val (.int v85_0), .val (.int v90_0), .val (.int v95_0), .val (.int v100_0)] [(.long q3), (.int v85_0), (.ref b1)])) _
      refine XS.iload X106.here hx rfl (hb hby at_111) rfl ?_
      show Steps p.tables e below (T106.setTop (mkF m 113 #[.val (.int p0), .val (.int p1), .val (.long q2), .second, .val (.long q3), .second, .val (.ref b1), .val (.int v75_0), .val (.int v80_0), .val (.int v85_0), .val (.int v90_0), .val (.int v95_0), .val (.int v100_0)] [(.int v90_0), (.long q3), (.int v85_0), (.ref b1)])) _
      refine XS.lloadN X106.here hx rfl (hb hby at_113) rfl ?_
      show Steps p.tables e below (T106.setTop (mkF m 114 #[.val (.int p0), .val (.int p1), .val (.long q2), .second, .val (.long q3), .second, .val (.ref b1), .val (.int v75_0), .val (.int v80_0), .val (.int v85_0), .val (.int v90_0), .val (.int v95_0), .val (.int v100_0)] [(.long q2), (.int v90_0), (.long q3), (.int v85_0), (.ref b1)])) _
      exact Steps.refl _)
    have Z_109 : n0 ≤ T106.heap.size := (Nat.le_trans Z_105 Kp106.1)
    obtain ⟨cq110, kq110, q110a, q110b, q110c⟩ := isOf hZ rfl Q106_0
    obtain ⟨_, _, ⟨T110, L110, k110, n110⟩, -, X110, ⟨Lc110, hQ110, l110, y110, z110⟩, st110⟩ := X106.virtualBack hx (y := (⟨"com/example/spanfold/spanfold/RangeList", "add", "(ZJZJ)V"⟩ : MethodName)) (z := (⟨"com/example/spanfold/spanfold/RangeList", "add", "(ZJZJ)V"⟩ : MethodName)) hown (mvT hZ (hw _ (List.mem_of_getElem? (i := 17) rfl))) (mvT hZ (hw _ (List.mem_of_getElem? (i := 18) rfl))) (notFace_of_selects (args := #[]) (mvT hZ (hw _ (List.mem_of_getElem? (i := 20) rfl)))) (mvT hZ (hw _ (List.mem_of_getElem? (i := 20) rfl))) (mvT hZ (hw _ (List.mem_of_getElem? (i := 19) rfl))) (by decide) (backOf (W := 0) (rm3g l Z a0 hw [] b1 v85_0 q3 v90_0 q2 b72_b5 b72_b12 b72_b23 k5_72 k12_72 k23_72 (1 : Int32) ((List.replicate 3 (.long (0 : Int64))).set 0 (.long (if v75_0 = (0 : Int32) then (0 : Int64) else q2))) ((List.replicate 3 (.long (0 : Int64))).set 0 (.long (if v80_0 = (0 : Int32) then (0 : Int64) else q3))) ((List.replicate 3 (.int (0 : Int32))).set 0 (.int ((((if v75_0 = (0 : Int32) then (0 : Int32) else (1 : Int32)) ||| (if v80_0 = (0 : Int32) then (0 : Int32) else (2 : Int32))).toInt8.toInt32).toInt8.toInt32))) (1 : Int32) 1 T106.heap n0 Z_109 Q106_0 Q106_1 Q106_2 Q106_3 Q106_4f Q106_5 Q106_6 Q106_7 ne_b1_b72_b5 ne_b1_b72_b12 ne_b1_b72_b23 ne72_14 ne72_15 ne72_16 ge_b1 (rfl) (by decide) (by decide) (by decide) (by decide) (rfl) (by decide) (by decide)) hZ (hw _ (List.mem_of_getElem? (i := 21) rfl)) (hw _ (List.mem_of_getElem? (i := 2) rfl)) (by decide) (by decide)) q110a q110c (g := (mkF m 114 #[.val (.int p0), .val (.int p1), .val (.long q2), .second, .val (.long q3), .second, .val (.ref b1), .val (.int v75_0), .val (.int v80_0), .val (.int v85_0), .val (.int v90_0), .val (.int v95_0), .val (.int v100_0)] [(.long q2), (.int v90_0), (.long q3), (.int v85_0), (.ref b1)])) rfl (by rw [hml]; rfl) K108 (argsL := [(.int v85_0), (.long q3), (.int v90_0), (.long q2)]) (rest := []) (lenOf pd_5 rfl) rfl (by show 2 * 0 + _ ≤ _; exact Nat.le_of_eq rfl) (hb hby at_114) (fun _ _ => ⟨rfl, rfl, (by decide : 4 + 3 ≤ _), (by decide : 13 + 24 ≤ _)⟩)
    dsimp only [Pt.U, Pt.locs, Pt.cells, Pt.slots] at X110 l110 y110 z110 st110 hQ110
    subst l110 y110 z110
    obtain ⟨b110_b19_b4, b110_b32_b4, b110_b50_b4, k4_19_110, k4_32_110, k4_50_110, rfl, N110, Kp110, Q110_0, Q110_1, Q110_2, Q110_3, Q110_4, Q110_5, Q110_6, Q110_7, Q110_8, Q110_9, Q110_10, sz110_b19_b4, sz110_b32_b4, sz110_b50_b4, ne110_14, ne110_15, ne110_16⟩ := hQ110
    have ne_b1_b110_b19_b4 : b1 ≠ b110_b19_b4 := Nat.ne_of_lt (Nat.lt_of_lt_of_le Q106_0.lt sz110_b19_b4)
    have E_111 : Exa Z T106.heap b72_b5 "[J" := (Q72_3.keep Kp106)
    have ne_b72_b5_b110_b19_b4 : b72_b5 ≠ b110_b19_b4 := Nat.ne_of_lt (Nat.lt_of_lt_of_le E_111.lt sz110_b19_b4)
    have E_112 : Exa Z T106.heap b72_b12 "[J" := (Q72_6.keep Kp106)
    have ne_b72_b12_b110_b19_b4 : b72_b12 ≠ b110_b19_b4 := Nat.ne_of_lt (Nat.lt_of_lt_of_le E_112.lt sz110_b19_b4)
    have E_113 : Exa Z T106.heap b72_b23 "[B" := (Q72_9.keep Kp106)
    have ne_b72_b23_b110_b19_b4 : b72_b23 ≠ b110_b19_b4 := Nat.ne_of_lt (Nat.lt_of_lt_of_le E_113.lt sz110_b19_b4)
    have ge_b110_b19_b4 : n0 ≤ b110_b19_b4 := Nat.le_trans Z_109 sz110_b19_b4
    have ne_b1_b110_b32_b4 : b1 ≠ b110_b32_b4 := Nat.ne_of_lt (Nat.lt_of_lt_of_le Q106_0.lt sz110_b32_b4)
    have ne_b72_b5_b110_b32_b4 : b72_b5 ≠ b110_b32_b4 := Nat.ne_of_lt (Nat.lt_of_lt_of_le E_111.lt sz110_b32_b4)
    have ne_b72_b12_b110_b32_b4 : b72_b12 ≠ b110_b32_b4 := Nat.ne_of_lt (Nat.lt_of_lt_of_le E_112.lt sz110_b32_b4)
    have ne_b72_b23_b110_b32_b4 : b72_b23 ≠ b110_b32_b4 := Nat.ne_of_lt (Nat.lt_of_lt_of_le E_113.lt sz110_b32_b4)
    have ge_b110_b32_b4 : n0 ≤ b110_b32_b4 := Nat.le_trans Z_109 sz110_b32_b4
    have ne_b1_b110_b50_b4 : b1 ≠ b110_b50_b4 := Nat.ne_of_lt (Nat.lt_of_lt_of_le Q106_0.lt sz110_b50_b4)
    have ne_b72_b5_b110_b50_b4 : b72_b5 ≠ b110_b50_b4 := Nat.ne_of_lt (Nat.lt_of_lt_of_le E_111.lt sz110_b50_b4)
    have ne_b72_b12_b110_b50_b4 : b72_b12 ≠ b110_b50_b4 := Nat.ne_of_lt (Nat.lt_of_lt_of_le E_112.lt sz110_b50_b4)
    have ne_b72_b23_b110_b50_b4 : b72_b23 ≠ b110_b50_b4 := Nat.ne_of_lt (Nat.lt_of_lt_of_le E_113.lt sz110_b50_b4)
    have ge_b110_b50_b4 : n0 ≤ b110_b50_b4 := Nat.le_trans Z_109 sz110_b50_b4
    have Q110_4f : Fld Z T110.heap b1 "com/example/spanfold/spanfold/RangeList" "size" "I" (.int (2 : Int32)) := Q110_4
    have N110' := Fr.app N106' N110
    have K114 : Steps p.tables e below _ (T110.setTop (mkF m 117 #[.val (.int p0), .val (.int p1), .val (.long q2), .second, .val (.long q3), .second, .val (.ref b1), .val (.int v75_0), .val (.int v80_0), .val (.int v85_0), .val (.int v90_0), .val (.int v95_0), .val (.int v100_0)] [])) := st110
    have K115 : Steps p.tables e below _ (T110.setTop (mkF m 128 #[.val (.int p0), .val (.int p1), .val (.long q2), .second, .val (.long q3), .second, .val (.ref b1), .val (.int v75_0), .val (.int v80_0), .val (.int v85_0), .val (.int v90_0), .val (.int v95_0), .val (.int v100_0)] [(.long (q3 - q2)), (.int v100_0), (.long q2), (.int v95_0), (.ref b1)])) := K114.trans (by
      show Steps p.tables e below (T110.setTop (mkF m 117 #[.val (.int p0), .val (.int p1), .val (.long q2), .second, .val (.long q3), .second, .val (.ref b1), .val (.int v75_0), .val (.int v80_0), .val (.int v85_0), .val (.int v90_0), .val (.int v95_0), .val (.int v100_0)] [])) _
      refine XS.aload X110.here hx rfl (hb hby at_117) rfl rfl ?_
      show Steps p.tables e below (T110.setTop (mkF m 119 #[.val (.int p0), .val (.int p1), .val (.long q2), .second, .val (.long q3), .second, .val (.ref b1), .val (.int v75_0), .val (.int v80_0), .val (.int v85_0), .val (.int v90_0), .val (.int v95_0), .val (.int v100_0)] [(.ref b1)])) _
      refine XS.iload X110.here hx rfl (hb hby at_119) rfl ?_
      show Steps p.tables e below (T110.setTop (mkF m 121 #[.val (.int p0), .val (.int p1), .val (.long q2), .second, .val (.long q3), .second, .val (.ref b1), .val (.int v75_0), .val (.int v80_0), .val (.int v85_0), .val (.int v90_0), .val (.int v95_0), .val (.int v100_0)] [(.int v95_0), (.ref b1)])) _
      refine XS.lloadN X110.here hx rfl (hb hby at_121) rfl ?_
      show Steps p.tables e below (T110.setTop (mkF m 122 #[.val (.int p0), .val (.int p1), .val (.long q2), .second, .val (.long q3), .second, .val (.ref b1), .val (.int v75_0), .val (.int v80_0), .val (.int v85_0), .val (.int v90_0), .val (.int v95_0), .val (.int v100_0)] [(.long q2), (.int v95_0), (.ref b1)])) _
      refine XS.iload X110.here hx rfl (hb hby at_122) rfl ?_
      show Steps p.tables e below (T110.setTop (mkF m 124 #[.val (.int p0), .val (.int p1), .val (.long q2), .second, .val (.long q3), .second, .val (.ref b1), .val (.int v75_0), .val (.int v80_0), .val (.int v85_0), .val (.int v90_0), .val (.int v95_0), .val (.int v100_0)] [(.int v100_0), (.long q2), (.int v95_0), (.ref b1)])) _
      refine XS.lload X110.here hx rfl (hb hby at_124) rfl ?_
      show Steps p.tables e below (T110.setTop (mkF m 126 #[.val (.int p0), .val (.int p1), .val (.long q2), .second, .val (.long q3), .second, .val (.ref b1), .val (.int v75_0), .val (.int v80_0), .val (.int v85_0), .val (.int v90_0), .val (.int v95_0), .val (.int v100_0)] [(.long q3), (.int v100_0), (.long q2), (.int v95_0), (.ref b1)])) _
      refine XS.lloadN X110.here hx rfl (hb hby at_126) rfl ?_
      show Steps p.tables e below (T110.setTop (mkF m 127 #[.val (.int p0), .val (.int p1), .val (.long q2), .second, .val (.long q3), .second, .val (.ref b1), .val (.int v75_0), .val (.int v80_0), .val (.int v85_0), .val (.int v90_0), .val (.int v95_0), .val (.int v100_0)] [(.long q2), (.long q3), (.int v100_0), (.long q2), (.int v95_0), (.ref b1)])) _
      refine XS.lsub X110.here hx rfl (hb hby at_127) rfl ?_
      show Steps p.tables e below (T110.setTop (mkF m 128 #[.val (.int p0), .val (.int p1), .val (.long q2), .second, .val (.long q3), .second, .val (.ref b1), .val (.int v75_0), .val (.int v80_0), .val (.int v85_0), .val (.int v90_0), .val (.int v95_0), .val (.int v100_0)] [(.long (q3 - q2)), (.int v100_0), (.long q2), (.int v95_0), (.ref b1)])) _
      exact Steps.refl _)
    have Z_116 : n0 ≤ T110.heap.size := (Nat.le_trans Z_109 Kp110.1)
    obtain ⟨cq117, kq117, q117a, q117b, q117c⟩ := isOf hZ rfl Q110_0
    obtain ⟨_, _, ⟨T117, L117, k117, n117⟩, -, X117, ⟨Lc117, hQ117, l117, y117, z117⟩, st117⟩ := X110.virtualBack hx (y := (⟨"com/example/spanfold/spanfold/RangeList", "add", "(ZJZJ)V"⟩ : MethodName)) (z := (⟨"com/example/spanfold/spanfold/RangeList", "add", "(ZJZJ)V"⟩ : MethodName)) hown (mvT hZ (hw _ (List.mem_of_getElem? (i := 17) rfl))) (mvT hZ (hw _ (List.mem_of_getElem? (i := 18) rfl))) (notFace_of_selects (args := #[]) (mvT hZ (hw _ (List.mem_of_getElem? (i := 20) rfl)))) (mvT hZ (hw _ (List.mem_of_getElem? (i := 20) rfl))) (mvT hZ (hw _ (List.mem_of_getElem? (i := 19) rfl))) (by decide) (backOf (W := 0) (rm3n l Z a0 hw [] b1 v95_0 q2 v100_0 (q3 - q2) b110_b19_b4 b110_b32_b4 b110_b50_b4 k4_19_110 k4_32_110 k4_50_110 (8 : Int32) ((own_cp 8 (1 : Int32).toNatClampNeg ((List.replicate 3 (.long (0 : Int64))).set 0 (.long (if v75_0 = (0 : Int32) then (0 : Int64) else q2))) (.long (0 : Int64))).set 1 (.long (if v85_0 = (0 : Int32) then (0 : Int64) else q3))) ((own_cp 8 (1 : Int32).toNatClampNeg ((List.replicate 3 (.long (0 : Int64))).set 0 (.long (if v80_0 = (0 : Int32) then (0 : Int64) else q3))) (.long (0 : Int64))).set 1 (.long (if v90_0 = (0 : Int32) then (0 : Int64) else q2))) ((own_cp 8 (1 : Int32).toNatClampNeg ((List.replicate 3 (.int (0 : Int32))).set 0 (.int ((((if v75_0 = (0 : Int32) then (0 : Int32) else (1 : Int32)) ||| (if v80_0 = (0 : Int32) then (0 : Int32) else (2 : Int32))).toInt8.toInt32).toInt8.toInt32))) (.int (0 : Int32))).set 1 (.int ((((if v85_0 = (0 : Int32) then (0 : Int32) else (1 : Int32)) ||| (if v90_0 = (0 : Int32) then (0 : Int32) else (2 : Int32))).toInt8.toInt32).toInt8.toInt32))) (2 : Int32) 2 T110.heap n0 Z_116 Q110_0 Q110_1 Q110_2 Q110_3 Q110_4f Q110_6 Q110_8 Q110_10 ne_b1_b110_b19_b4 ne_b1_b110_b32_b4 ne_b1_b110_b50_b4 ne110_14 ne110_15 ne110_16 ge_b1 ge_b110_b19_b4 ge_b110_b32_b4 ge_b110_b50_b4 (by decide) (by decide) (rfl) (Nat.le_of_ble_eq_true rfl) (Nat.le_of_ble_eq_true rfl) (Nat.le_of_ble_eq_true rfl)) hZ (hw _ (List.mem_of_getElem? (i := 21) rfl)) (hw _ (List.mem_of_getElem? (i := 2) rfl)) (by decide) (by decide)) q117a q117c (g := (mkF m 128 #[.val (.int p0), .val (.int p1), .val (.long q2), .second, .val (.long q3), .second, .val (.ref b1), .val (.int v75_0), .val (.int v80_0), .val (.int v85_0), .val (.int v90_0), .val (.int v95_0), .val (.int v100_0)] [(.long (q3 - q2)), (.int v100_0), (.long q2), (.int v95_0), (.ref b1)])) rfl (by rw [hml]; rfl) K115 (argsL := [(.int v95_0), (.long q2), (.int v100_0), (.long (q3 - q2))]) (rest := []) (lenOf pd_5 rfl) rfl (by show 2 * 0 + _ ≤ _; exact Nat.le_of_eq rfl) (hb hby at_128) (fun _ _ => ⟨rfl, rfl, (by decide : 7 + 0 ≤ _), (by decide : 37 + 0 ≤ _)⟩)
    dsimp only [Pt.U, Pt.locs, Pt.cells, Pt.slots] at X117 l117 y117 z117 st117 hQ117
    subst l117 y117 z117
    obtain ⟨rfl, N117, Kp117, Q117_0, Q117_1, Q117_2, Q117_3, Q117_4, Q117_5, Q117_6, Q117_7⟩ := hQ117
    have Q117_4f : Fld Z T117.heap b1 "com/example/spanfold/spanfold/RangeList" "size" "I" (.int (3 : Int32)) := Q117_4
    have N117' := Fr.app N110' N117
    have K118 : Steps p.tables e below _ (T117.setTop (mkF m 131 #[.val (.int p0), .val (.int p1), .val (.long q2), .second, .val (.long q3), .second, .val (.ref b1), .val (.int v75_0), .val (.int v80_0), .val (.int v85_0), .val (.int v90_0), .val (.int v95_0), .val (.int v100_0)] [])) := st117
    have K119 : Steps p.tables e below _ (T117.setTop (mkF m 134 #[.val (.int p0), .val (.int p1), .val (.long q2), .second, .val (.long q3), .second, .val (.ref b1), .val (.int v75_0), .val (.int v80_0), .val (.int v85_0), .val (.int v90_0), .val (.int v95_0), .val (.int v100_0)] [(.int (0 : Int32)), (.ref b1)])) := K118.trans (by
      show Steps p.tables e below (T117.setTop (mkF m 131 #[.val (.int p0), .val (.int p1), .val (.long q2), .second, .val (.long q3), .second, .val (.ref b1), .val (.int v75_0), .val (.int v80_0), .val (.int v85_0), .val (.int v90_0), .val (.int v95_0), .val (.int v100_0)] [])) _
      refine XS.aload X117.here hx rfl (hb hby at_131) rfl rfl ?_
      show Steps p.tables e below (T117.setTop (mkF m 133 #[.val (.int p0), .val (.int p1), .val (.long q2), .second, .val (.long q3), .second, .val (.ref b1), .val (.int v75_0), .val (.int v80_0), .val (.int v85_0), .val (.int v90_0), .val (.int v95_0), .val (.int v100_0)] [(.ref b1)])) _
      refine XS.iconst X117.here hx rfl (hb hby at_133) ?_
      show Steps p.tables e below (T117.setTop (mkF m 134 #[.val (.int p0), .val (.int p1), .val (.long q2), .second, .val (.long q3), .second, .val (.ref b1), .val (.int v75_0), .val (.int v80_0), .val (.int v85_0), .val (.int v90_0), .val (.int v95_0), .val (.int v100_0)] [(.int (0 : Int32)), (.ref b1)])) _
      exact Steps.refl _)
    have Z_120 : n0 ≤ T117.heap.size := (Nat.le_trans Z_116 Kp117.1)
    obtain ⟨cq121, kq121, q121a, q121b, q121c⟩ := isOf hZ rfl Q117_0
    obtain ⟨_, _, ⟨T121, L121, k121, n121⟩, -, X121, ⟨Lc121, hQ121, l121, y121, z121⟩, st121⟩ := X117.virtualBack hx (y := (⟨"com/example/spanfold/spanfold/RangeList", "hasTo", "(I)Z"⟩ : MethodName)) (z := (⟨"com/example/spanfold/spanfold/RangeList", "hasTo", "(I)Z"⟩ : MethodName)) hown (mvT hZ (hw _ (List.mem_of_getElem? (i := 42) rfl))) (mvT hZ (hw _ (List.mem_of_getElem? (i := 43) rfl))) (notFace_of_selects (args := #[]) (mvT hZ (hw _ (List.mem_of_getElem? (i := 45) rfl)))) (mvT hZ (hw _ (List.mem_of_getElem? (i := 45) rfl))) (mvT hZ (hw _ (List.mem_of_getElem? (i := 44) rfl))) (by decide) (backOf (W := 0) (rm8 l Z a0 hw [] b1 (0 : Int32) b110_b50_b4 k4_50_110 (8 : Int32) (((own_cp 8 (1 : Int32).toNatClampNeg ((List.replicate 3 (.int (0 : Int32))).set 0 (.int ((((if v75_0 = (0 : Int32) then (0 : Int32) else (1 : Int32)) ||| (if v80_0 = (0 : Int32) then (0 : Int32) else (2 : Int32))).toInt8.toInt32).toInt8.toInt32))) (.int (0 : Int32))).set 1 (.int ((((if v85_0 = (0 : Int32) then (0 : Int32) else (1 : Int32)) ||| (if v90_0 = (0 : Int32) then (0 : Int32) else (2 : Int32))).toInt8.toInt32).toInt8.toInt32))).set 2 (.int ((((if v95_0 = (0 : Int32) then (0 : Int32) else (1 : Int32)) ||| (if v100_0 = (0 : Int32) then (0 : Int32) else (2 : Int32))).toInt8.toInt32).toInt8.toInt32))) ((((if v75_0 = (0 : Int32) then (0 : Int32) else (1 : Int32)) ||| (if v80_0 = (0 : Int32) then (0 : Int32) else (2 : Int32))).toInt8.toInt32).toInt8.toInt32) (3 : Int32) T117.heap n0 Z_120 Q117_3 Q117_4f Q117_7 (by decide) (by decide) (by decide) (rfl)) hZ (hw _ (List.mem_of_getElem? (i := 46) rfl)) (hw _ (List.mem_of_getElem? (i := 2) rfl)) (by decide) (by decide)) q121a q121c (g := (mkF m 134 #[.val (.int p0), .val (.int p1), .val (.long q2), .second, .val (.long q3), .second, .val (.ref b1), .val (.int v75_0), .val (.int v80_0), .val (.int v85_0), .val (.int v90_0), .val (.int v95_0), .val (.int v100_0)] [(.int (0 : Int32)), (.ref b1)])) rfl (by rw [hml]; rfl) K119 (argsL := [(.int (0 : Int32))]) (rest := []) (lenOf pd_6 rfl) rfl (by show 2 * 0 + _ ≤ _; exact Nat.le_of_eq rfl) (hb hby at_134) (fun _ _ => ⟨rfl, rfl, (by decide : 7 + 0 ≤ _), (by decide : 37 + 0 ≤ _)⟩)
    dsimp only [Pt.U, Pt.locs, Pt.cells, Pt.slots] at X121 l121 y121 z121 st121 hQ121
    subst l121 y121 z121
    obtain ⟨rfl, N121, eh121⟩ := hQ121
    have N121' := Fr.app N117' N121
    have K123 : Steps p.tables e below _ (T121.setTop (mkF m 137 #[.val (.int p0), .val (.int p1), .val (.long q2), .second, .val (.long q3), .second, .val (.ref b1), .val (.int v75_0), .val (.int v80_0), .val (.int v85_0), .val (.int v90_0), .val (.int v95_0), .val (.int v100_0)] [(.int ((if (((((if v75_0 = (0 : Int32) then (0 : Int32) else (1 : Int32)) ||| (if v80_0 = (0 : Int32) then (0 : Int32) else (2 : Int32))).toInt8.toInt32).toInt8.toInt32) &&& (2 : Int32)) = (0 : Int32) then (0 : Int32) else (1 : Int32)) &&& 1))])) := st121
    obtain ⟨r122, hr122⟩ : ∃ z : Int32, ((if (((((if v75_0 = (0 : Int32) then (0 : Int32) else (1 : Int32)) ||| (if v80_0 = (0 : Int32) then (0 : Int32) else (2 : Int32))).toInt8.toInt32).toInt8.toInt32) &&& (2 : Int32)) = (0 : Int32) then (0 : Int32) else (1 : Int32)) &&& 1) = z := ⟨_, rfl⟩
    rw [hr122] at K123
    have K124 : Steps p.tables e below _ (T121.setTop (mkF m 139 #[.val (.int p0), .val (.int p1), .val (.long q2), .second, .val (.long q3), .second, .val (.ref b1), .val (.int v75_0), .val (.int v80_0), .val (.int v85_0), .val (.int v90_0), .val (.int v95_0), .val (.int v100_0)] [(.int v80_0), (.int r122)])) := K123.trans (by
      show Steps p.tables e below (T121.setTop (mkF m 137 #[.val (.int p0), .val (.int p1), .val (.long q2), .second, .val (.long q3), .second, .val (.ref b1), .val (.int v75_0), .val (.int v80_0), .val (.int v85_0), .val (.int v90_0), .val (.int v95_0), .val (.int v100_0)] [(.int r122)])) _
      refine XS.iload X121.here hx rfl (hb hby at_137) rfl ?_
      show Steps p.tables e below (T121.setTop (mkF m 139 #[.val (.int p0), .val (.int p1), .val (.long q2), .second, .val (.long q3), .second, .val (.ref b1), .val (.int v75_0), .val (.int v80_0), .val (.int v85_0), .val (.int v90_0), .val (.int v95_0), .val (.int v100_0)] [(.int v80_0), (.int r122)])) _
      exact Steps.refl _)
    obtain ⟨T125, L125, v125_0, X125, e125, N125, hv125_0, S125⟩ : ∃ (T125 : State) (L125 : List Loc) (v125_0 : Int32), Stand p l e room_1 s m #[(.int p0), (.int p1), (.long q2), (.long q3)] below meth c T125 L125 7 37 ∧ T125.heap = T117.heap ∧ Fr n0 L125 ∧ (if r122 = v80_0 then (if ((if (((((if v85_0 = (0 : Int32) then (0 : Int32) else (1 : Int32)) ||| (if v90_0 = (0 : Int32) then (0 : Int32) else (2 : Int32))).toInt8.toInt32).toInt8.toInt32) &&& (2 : Int32)) = (0 : Int32) then (0 : Int32) else (1 : Int32)) &&& 1) = v90_0 then (if ((if (((((if v95_0 = (0 : Int32) then (0 : Int32) else (1 : Int32)) ||| (if v100_0 = (0 : Int32) then (0 : Int32) else (2 : Int32))).toInt8.toInt32).toInt8.toInt32) &&& (2 : Int32)) = (0 : Int32) then (0 : Int32) else (1 : Int32)) &&& 1) = v100_0 then (1 : Int32) else (0 : Int32)) else (0 : Int32)) else (0 : Int32)) = v125_0 ∧ Steps p.tables e below (T121.setTop (mkF m 139 #[.val (.int p0), .val (.int p1), .val (.long q2), .second, .val (.long q3), .second, .val (.ref b1), .val (.int v75_0), .val (.int v80_0), .val (.int v85_0), .val (.int v90_0), .val (.int v95_0), .val (.int v100_0)] [(.int v80_0), (.int r122)])) (T125.setTop (mkF m 169 #[.val (.int p0), .val (.int p1), .val (.long q2), .second, .val (.long q3), .second, .val (.ref b1), .val (.int v75_0), .val (.int v80_0), .val (.int v85_0), .val (.int v90_0), .val (.int v95_0), .val (.int v100_0)] [(.int v125_0)])) := by
      have R125 : Steps p.tables e below (T121.setTop (mkF m 139 #[.val (.int p0), .val (.int p1), .val (.long q2), .second, .val (.long q3), .second, .val (.ref b1), .val (.int v75_0), .val (.int v80_0), .val (.int v85_0), .val (.int v90_0), .val (.int v95_0), .val (.int v100_0)] [(.int v80_0), (.int r122)])) (T121.setTop (mkF m 139 #[.val (.int p0), .val (.int p1), .val (.long q2), .second, .val (.long q3), .second, .val (.ref b1), .val (.int v75_0), .val (.int v80_0), .val (.int v85_0), .val (.int v90_0), .val (.int v95_0), .val (.int v100_0)] [(.int v80_0), (.int r122)])) := Steps.refl _
      by_cases hc139 : r122 = v80_0
      · have K126 : Steps p.tables e below _ (T121.setTop (mkF m 145 #[.val (.int p0), .val (.int p1), .val (.long q2), .second, .val (.long q3), .second, .val (.ref b1), .val (.int v75_0), .val (.int v80_0), .val (.int v85_0), .val (.int v90_0), .val (.int v95_0), .val (.int v100_0)] [(.int (1 : Int32)), (.ref b1)])) := R125.trans (by
          show Steps p.tables e below (T121.setTop (mkF m 139 #[.val (.int p0), .val (.int p1), .val (.long q2), .second, .val (.long q3), .second, .val (.ref b1), .val (.int v75_0), .val (.int v80_0), .val (.int v85_0), .val (.int v90_0), .val (.int v95_0), .val (.int v100_0)] [(.int v80_0), (.int r122)])) _
          refine XS.icmpNo X121.here hx rfl (hb hby at_139) rfl (teq hc139).2 ?_
          show Steps p.tables e below (T121.setTop (mkF m 142 #[.val (.int p0), .val (.int p1), .val (.long q2), .second, .val (.long q3), .second, .val (.ref b1), .val (.int v75_0), .val (.int v80_0), .val (.int v85_0), .val (.int v90_0), .val (.int v95_0), .val (.int v100_0)] [])) _
          refine XS.aload X121.here hx rfl (hb hby at_142) rfl rfl ?_
          show Steps p.tables e below (T121.setTop (mkF m 144 #[.val (.int p0), .val (.int p1), .val (.long q2), .second, .val (.long q3), .second, .val (.ref b1), .val (.int v75_0), .val (.int v80_0), .val (.int v85_0), .val (.int v90_0), .val (.int v95_0), .val (.int v100_0)] [(.ref b1)])) _
          refine XS.iconst X121.here hx rfl (hb hby at_144) ?_
          show Steps p.tables e below (T121.setTop (mkF m 145 #[.val (.int p0), .val (.int p1), .val (.long q2), .second, .val (.long q3), .second, .val (.ref b1), .val (.int v75_0), .val (.int v80_0), .val (.int v85_0), .val (.int v90_0), .val (.int v95_0), .val (.int v100_0)] [(.int (1 : Int32)), (.ref b1)])) _
          exact Steps.refl _)
        obtain ⟨cq127, kq127, q127a, q127b, q127c⟩ := isOf hZ eh121 Q117_0
        obtain ⟨_, _, ⟨T127, L127, k127, n127⟩, -, X127, ⟨Lc127, hQ127, l127, y127, z127⟩, st127⟩ := X121.virtualBack hx (y := (⟨"com/example/spanfold/spanfold/RangeList", "hasTo", "(I)Z"⟩ : MethodName)) (z := (⟨"com/example/spanfold/spanfold/RangeList", "hasTo", "(I)Z"⟩ : MethodName)) hown (mvT hZ (hw _ (List.mem_of_getElem? (i := 42) rfl))) (mvT hZ (hw _ (List.mem_of_getElem? (i := 43) rfl))) (notFace_of_selects (args := #[]) (mvT hZ (hw _ (List.mem_of_getElem? (i := 45) rfl)))) (mvT hZ (hw _ (List.mem_of_getElem? (i := 45) rfl))) (mvT hZ (hw _ (List.mem_of_getElem? (i := 44) rfl))) (by decide) (backOf (W := 0) (rm8 l Z a0 hw [] b1 (1 : Int32) b110_b50_b4 k4_50_110 (8 : Int32) (((own_cp 8 (1 : Int32).toNatClampNeg ((List.replicate 3 (.int (0 : Int32))).set 0 (.int ((((if v75_0 = (0 : Int32) then (0 : Int32) else (1 : Int32)) ||| (if v80_0 = (0 : Int32) then (0 : Int32) else (2 : Int32))).toInt8.toInt32).toInt8.toInt32))) (.int (0 : Int32))).set 1 (.int ((((if v85_0 = (0 : Int32) then (0 : Int32) else (1 : Int32)) ||| (if v90_0 = (0 : Int32) then (0 : Int32) else (2 : Int32))).toInt8.toInt32).toInt8.toInt32))).set 2 (.int ((((if v95_0 = (0 : Int32) then (0 : Int32) else (1 : Int32)) ||| (if v100_0 = (0 : Int32) then (0 : Int32) else (2 : Int32))).toInt8.toInt32).toInt8.toInt32))) ((((if v85_0 = (0 : Int32) then (0 : Int32) else (1 : Int32)) ||| (if v90_0 = (0 : Int32) then (0 : Int32) else (2 : Int32))).toInt8.toInt32).toInt8.toInt32) (3 : Int32) T117.heap n0 Z_120 Q117_3 Q117_4f Q117_7 (by decide) (by decide) (by decide) (rfl)) hZ (hw _ (List.mem_of_getElem? (i := 46) rfl)) (hw _ (List.mem_of_getElem? (i := 2) rfl)) (by decide) (by decide)) q127a q127c (g := (mkF m 145 #[.val (.int p0), .val (.int p1), .val (.long q2), .second, .val (.long q3), .second, .val (.ref b1), .val (.int v75_0), .val (.int v80_0), .val (.int v85_0), .val (.int v90_0), .val (.int v95_0), .val (.int v100_0)] [(.int (1 : Int32)), (.ref b1)])) rfl (by rw [hml]; rfl) K126 (argsL := [(.int (1 : Int32))]) (rest := []) (lenOf pd_6 rfl) rfl (by show 2 * 0 + _ ≤ _; exact Nat.le_of_eq rfl) (hb hby at_145) (fun _ _ => ⟨rfl, eh121, (by decide : 7 + 0 ≤ _), (by decide : 37 + 0 ≤ _)⟩)
        dsimp only [Pt.U, Pt.locs, Pt.cells, Pt.slots] at X127 l127 y127 z127 st127 hQ127
        subst l127 y127 z127
        obtain ⟨rfl, N127, eh127⟩ := hQ127
        have N127' := Fr.app N121' N127
        have K129 : Steps p.tables e below _ (T127.setTop (mkF m 148 #[.val (.int p0), .val (.int p1), .val (.long q2), .second, .val (.long q3), .second, .val (.ref b1), .val (.int v75_0), .val (.int v80_0), .val (.int v85_0), .val (.int v90_0), .val (.int v95_0), .val (.int v100_0)] [(.int ((if (((((if v85_0 = (0 : Int32) then (0 : Int32) else (1 : Int32)) ||| (if v90_0 = (0 : Int32) then (0 : Int32) else (2 : Int32))).toInt8.toInt32).toInt8.toInt32) &&& (2 : Int32)) = (0 : Int32) then (0 : Int32) else (1 : Int32)) &&& 1))])) := st127
        obtain ⟨r128, hr128⟩ : ∃ z : Int32, ((if (((((if v85_0 = (0 : Int32) then (0 : Int32) else (1 : Int32)) ||| (if v90_0 = (0 : Int32) then (0 : Int32) else (2 : Int32))).toInt8.toInt32).toInt8.toInt32) &&& (2 : Int32)) = (0 : Int32) then (0 : Int32) else (1 : Int32)) &&& 1) = z := ⟨_, rfl⟩
        rw [hr128] at K129
        have K130 : Steps p.tables e below _ (T127.setTop (mkF m 150 #[.val (.int p0), .val (.int p1), .val (.long q2), .second, .val (.long q3), .second, .val (.ref b1), .val (.int v75_0), .val (.int v80_0), .val (.int v85_0), .val (.int v90_0), .val (.int v95_0), .val (.int v100_0)] [(.int v90_0), (.int r128)])) := K129.trans (by
          show Steps p.tables e below (T127.setTop (mkF m 148 #[.val (.int p0), .val (.int p1), .val (.long q2), .second, .val (.long q3), .second, .val (.ref b1), .val (.int v75_0), .val (.int v80_0), .val (.int v85_0), .val (.int v90_0), .val (.int v95_0), .val (.int v100_0)] [(.int r128)])) _
          refine XS.iload X127.here hx rfl (hb hby at_148) rfl ?_
          show Steps p.tables e below (T127.setTop (mkF m 150 #[.val (.int p0), .val (.int p1), .val (.long q2), .second, .val (.long q3), .second, .val (.ref b1), .val (.int v75_0), .val (.int v80_0), .val (.int v85_0), .val (.int v90_0), .val (.int v95_0), .val (.int v100_0)] [(.int v90_0), (.int r128)])) _
          exact Steps.refl _)
        by_cases hc150 : r128 = v90_0
        · have K131 : Steps p.tables e below _ (T127.setTop (mkF m 156 #[.val (.int p0), .val (.int p1), .val (.long q2), .second, .val (.long q3), .second, .val (.ref b1), .val (.int v75_0), .val (.int v80_0), .val (.int v85_0), .val (.int v90_0), .val (.int v95_0), .val (.int v100_0)] [(.int (2 : Int32)), (.ref b1)])) := K130.trans (by
            show Steps p.tables e below (T127.setTop (mkF m 150 #[.val (.int p0), .val (.int p1), .val (.long q2), .second, .val (.long q3), .second, .val (.ref b1), .val (.int v75_0), .val (.int v80_0), .val (.int v85_0), .val (.int v90_0), .val (.int v95_0), .val (.int v100_0)] [(.int v90_0), (.int r128)])) _
            refine XS.icmpNo X127.here hx rfl (hb hby at_150) rfl (teq hc150).2 ?_
            show Steps p.tables e below (T127.setTop (mkF m 153 #[.val (.int p0), .val (.int p1), .val (.long q2), .second, .val (.long q3), .second, .val (.ref b1), .val (.int v75_0), .val (.int v80_0), .val (.int v85_0), .val (.int v90_0), .val (.int v95_0), .val (.int v100_0)] [])) _
            refine XS.aload X127.here hx rfl (hb hby at_153) rfl rfl ?_
            show Steps p.tables e below (T127.setTop (mkF m 155 #[.val (.int p0), .val (.int p1), .val (.long q2), .second, .val (.long q3), .second, .val (.ref b1), .val (.int v75_0), .val (.int v80_0), .val (.int v85_0), .val (.int v90_0), .val (.int v95_0), .val (.int v100_0)] [(.ref b1)])) _
            refine XS.iconst X127.here hx rfl (hb hby at_155) ?_
            show Steps p.tables e below (T127.setTop (mkF m 156 #[.val (.int p0), .val (.int p1), .val (.long q2), .second, .val (.long q3), .second, .val (.ref b1), .val (.int v75_0), .val (.int v80_0), .val (.int v85_0), .val (.int v90_0), .val (.int v95_0), .val (.int v100_0)] [(.int (2 : Int32)), (.ref b1)])) _
            exact Steps.refl _)
          obtain ⟨cq132, kq132, q132a, q132b, q132c⟩ := isOf hZ eh127 Q117_0
          obtain ⟨_, _, ⟨T132, L132, k132, n132⟩, -, X132, ⟨Lc132, hQ132, l132, y132, z132⟩, st132⟩ := X127.virtualBack hx (y := (⟨"com/example/spanfold/spanfold/RangeList", "hasTo", "(I)Z"⟩ : MethodName)) (z := (⟨"com/example/spanfold/spanfold/RangeList", "hasTo", "(I)Z"⟩ : MethodName)) hown (mvT hZ (hw _ (List.mem_of_getElem? (i := 42) rfl))) (mvT hZ (hw _ (List.mem_of_getElem? (i := 43) rfl))) (notFace_of_selects (args := #[]) (mvT hZ (hw _ (List.mem_of_getElem? (i := 45) rfl)))) (mvT hZ (hw _ (List.mem_of_getElem? (i := 45) rfl))) (mvT hZ (hw _ (List.mem_of_getElem? (i := 44) rfl))) (by decide) (backOf (W := 0) (rm8 l Z a0 hw [] b1 (2 : Int32) b110_b50_b4 k4_50_110 (8 : Int32) (((own_cp 8 (1 : Int32).toNatClampNeg ((List.replicate 3 (.int (0 : Int32))).set 0 (.int ((((if v75_0 = (0 : Int32) then (0 : Int32) else (1 : Int32)) ||| (if v80_0 = (0 : Int32) then (0 : Int32) else (2 : Int32))).toInt8.toInt32).toInt8.toInt32))) (.int (0 : Int32))).set 1 (.int ((((if v85_0 = (0 : Int32) then (0 : Int32) else (1 : Int32)) ||| (if v90_0 = (0 : Int32) then (0 : Int32) else (2 : Int32))).toInt8.toInt32).toInt8.toInt32))).set 2 (.int ((((if v95_0 = (0 : Int32) then (0 : Int32) else (1 : Int32)) ||| (if v100_0 = (0 : Int32) then (0 : Int32) else (2 : Int32))).toInt8.toInt32).toInt8.toInt32))) ((((if v95_0 = (0 : Int32) then (0 : Int32) else (1 : Int32)) ||| (if v100_0 = (0 : Int32) then (0 : Int32) else (2 : Int32))).toInt8.toInt32).toInt8.toInt32) (3 : Int32) T117.heap n0 Z_120 Q117_3 Q117_4f Q117_7 (by decide) (by decide) (by decide) (rfl)) hZ (hw _ (List.mem_of_getElem? (i := 46) rfl)) (hw _ (List.mem_of_getElem? (i := 2) rfl)) (by decide) (by decide)) q132a q132c (g := (mkF m 156 #[.val (.int p0), .val (.int p1), .val (.long q2), .second, .val (.long q3), .second, .val (.ref b1), .val (.int v75_0), .val (.int v80_0), .val (.int v85_0), .val (.int v90_0), .val (.int v95_0), .val (.int v100_0)] [(.int (2 : Int32)), (.ref b1)])) rfl (by rw [hml]; rfl) K131 (argsL := [(.int (2 : Int32))]) (rest := []) (lenOf pd_6 rfl) rfl (by show 2 * 0 + _ ≤ _; exact Nat.le_of_eq rfl) (hb hby at_156) (fun _ _ => ⟨rfl, eh127, (by decide : 7 + 0 ≤ _), (by decide : 37 + 0 ≤ _)⟩)
          dsimp only [Pt.U, Pt.locs, Pt.cells, Pt.slots] at X132 l132 y132 z132 st132 hQ132
          subst l132 y132 z132
          obtain ⟨rfl, N132, eh132⟩ := hQ132
          have N132' := Fr.app N127' N132
          have K134 : Steps p.tables e below _ (T132.setTop (mkF m 159 #[.val (.int p0), .val (.int p1), .val (.long q2), .second, .val (.long q3), .second, .val (.ref b1), .val (.int v75_0), .val (.int v80_0), .val (.int v85_0), .val (.int v90_0), .val (.int v95_0), .val (.int v100_0)] [(.int ((if (((((if v95_0 = (0 : Int32) then (0 : Int32) else (1 : Int32)) ||| (if v100_0 = (0 : Int32) then (0 : Int32) else (2 : Int32))).toInt8.toInt32).toInt8.toInt32) &&& (2 : Int32)) = (0 : Int32) then (0 : Int32) else (1 : Int32)) &&& 1))])) := st132
          obtain ⟨r133, hr133⟩ : ∃ z : Int32, ((if (((((if v95_0 = (0 : Int32) then (0 : Int32) else (1 : Int32)) ||| (if v100_0 = (0 : Int32) then (0 : Int32) else (2 : Int32))).toInt8.toInt32).toInt8.toInt32) &&& (2 : Int32)) = (0 : Int32) then (0 : Int32) else (1 : Int32)) &&& 1) = z := ⟨_, rfl⟩
          rw [hr133] at K134
          have K135 : Steps p.tables e below _ (T132.setTop (mkF m 161 #[.val (.int p0), .val (.int p1), .val (.long q2), .second, .val (.long q3), .second, .val (.ref b1), .val (.int v75_0), .val (.int v80_0), .val (.int v85_0), .val (.int v90_0), .val (.int v95_0), .val (.int v100_0)] [(.int v100_0), (.int r133)])) := K134.trans (by
            show Steps p.tables e below (T132.setTop (mkF m 159 #[.val (.int p0), .val (.int p1), .val (.long q2), .second, .val (.long q3), .second, .val (.ref b1), .val (.int v75_0), .val (.int v80_0), .val (.int v85_0), .val (.int v90_0), .val (.int v95_0), .val (.int v100_0)] [(.int r133)])) _
            refine XS.iload X132.here hx rfl (hb hby at_159) rfl ?_
            show Steps p.tables e below (T132.setTop (mkF m 161 #[.val (.int p0), .val (.int p1), .val (.long q2), .second, .val (.long q3), .second, .val (.ref b1), .val (.int v75_0), .val (.int v80_0), .val (.int v85_0), .val (.int v90_0), .val (.int v95_0), .val (.int v100_0)] [(.int v100_0), (.int r133)])) _
            exact Steps.refl _)
          by_cases hc161 : r133 = v100_0
          · have K136 : Steps p.tables e below _ (T132.setTop (mkF m 169 #[.val (.int p0), .val (.int p1), .val (.long q2), .second, .val (.long q3), .second, .val (.ref b1), .val (.int v75_0), .val (.int v80_0), .val (.int v85_0), .val (.int v90_0), .val (.int v95_0), .val (.int v100_0)] [(.int (1 : Int32))])) := K135.trans (by
              show Steps p.tables e below (T132.setTop (mkF m 161 #[.val (.int p0), .val (.int p1), .val (.long q2), .second, .val (.long q3), .second, .val (.ref b1), .val (.int v75_0), .val (.int v80_0), .val (.int v85_0), .val (.int v90_0), .val (.int v95_0), .val (.int v100_0)] [(.int v100_0), (.int r133)])) _
              refine XS.icmpNo X132.here hx rfl (hb hby at_161) rfl (teq hc161).2 ?_
              show Steps p.tables e below (T132.setTop (mkF m 164 #[.val (.int p0), .val (.int p1), .val (.long q2), .second, .val (.long q3), .second, .val (.ref b1), .val (.int v75_0), .val (.int v80_0), .val (.int v85_0), .val (.int v90_0), .val (.int v95_0), .val (.int v100_0)] [])) _
              refine XS.iconst X132.here hx rfl (hb hby at_164) ?_
              show Steps p.tables e below (T132.setTop (mkF m 165 #[.val (.int p0), .val (.int p1), .val (.long q2), .second, .val (.long q3), .second, .val (.ref b1), .val (.int v75_0), .val (.int v80_0), .val (.int v85_0), .val (.int v90_0), .val (.int v95_0), .val (.int v100_0)] [(.int (1 : Int32))])) _
              refine XS.goto X132.here hx rfl (pc0 := 165) (pc' := 169) rfl (hb hby at_165) (by decide) (by decide) ?_
              show Steps p.tables e below (T132.setTop (mkF m 169 #[.val (.int p0), .val (.int p1), .val (.long q2), .second, .val (.long q3), .second, .val (.ref b1), .val (.int v75_0), .val (.int v80_0), .val (.int v85_0), .val (.int v90_0), .val (.int v95_0), .val (.int v100_0)] [(.int (1 : Int32))])) _
              exact Steps.refl _)
            subst hr133
            subst hr128
            exact ⟨T132, _, (1 : Int32), X132, eh132, N132', (by rw [if_pos hc139, if_pos hc150, if_pos hc161]), K136⟩
          · have K137 : Steps p.tables e below _ (T132.setTop (mkF m 169 #[.val (.int p0), .val (.int p1), .val (.long q2), .second, .val (.long q3), .second, .val (.ref b1), .val (.int v75_0), .val (.int v80_0), .val (.int v85_0), .val (.int v90_0), .val (.int v95_0), .val (.int v100_0)] [(.int (0 : Int32))])) := K135.trans (by
              show Steps p.tables e below (T132.setTop (mkF m 161 #[.val (.int p0), .val (.int p1), .val (.long q2), .second, .val (.long q3), .second, .val (.ref b1), .val (.int v75_0), .val (.int v80_0), .val (.int v85_0), .val (.int v90_0), .val (.int v95_0), .val (.int v100_0)] [(.int v100_0), (.int r133)])) _
              refine XS.icmpYes X132.here hx rfl (pc0 := 161) (pc' := 168) rfl (hb hby at_161) rfl (feq hc161).2 (by decide) (by decide) ?_
              show Steps p.tables e below (T132.setTop (mkF m 168 #[.val (.int p0), .val (.int p1), .val (.long q2), .second, .val (.long q3), .second, .val (.ref b1), .val (.int v75_0), .val (.int v80_0), .val (.int v85_0), .val (.int v90_0), .val (.int v95_0), .val (.int v100_0)] [])) _
              refine XS.iconst X132.here hx rfl (hb hby at_168) ?_
              show Steps p.tables e below (T132.setTop (mkF m 169 #[.val (.int p0), .val (.int p1), .val (.long q2), .second, .val (.long q3), .second, .val (.ref b1), .val (.int v75_0), .val (.int v80_0), .val (.int v85_0), .val (.int v90_0), .val (.int v95_0), .val (.int v100_0)] [(.int (0 : Int32))])) _
              exact Steps.refl _)
            subst hr133
            subst hr128
            exact ⟨T132, _, (0 : Int32), X132, eh132, N132', (by rw [if_pos hc139, if_pos hc150, if_neg hc161]), K137⟩
        · have K138 : Steps p.tables e below _ (T127.setTop (mkF m 169 #[.val (.int p0), .val (.int p1), .val (.long q2), .second, .val (.long q3), .second, .val (.ref b1), .val (.int v75_0), .val (.int v80_0), .val (.int v85_0), .val (.int v90_0), .val (.int v95_0), .val (.int v100_0)] [(.int (0 : Int32))])) := K130.trans (by
            show Steps p.tables e below (T127.setTop (mkF m 150 #[.val (.int p0), .val (.int p1), .val (.long q2), .second, .val (.long q3), .second, .val (.ref b1), .val (.int v75_0), .val (.int v80_0), .val (.int v85_0), .val (.int v90_0), .val (.int v95_0), .val (.int v100_0)] [(.int v90_0), (.int r128)])) _
            refine XS.icmpYes X127.here hx rfl (pc0 := 150) (pc' := 168) rfl (hb hby at_150) rfl (feq hc150).2 (by decide) (by decide) ?_
            show Steps p.tables e below (T127.setTop (mkF m 168 #[.val (.int p0), .val (.int p1), .val (.long q2), .second, .val (.long q3), .second, .val (.ref b1), .val (.int v75_0), .val (.int v80_0), .val (.int v85_0), .val (.int v90_0), .val (.int v95_0), .val (.int v100_0)] [])) _
            refine XS.iconst X127.here hx rfl (hb hby at_168) ?_
            show Steps p.tables e below (T127.setTop (mkF m 169 #[.val (.int p0), .val (.int p1), .val (.long q2), .second, .val (.long q3), .second, .val (.ref b1), .val (.int v75_0), .val (.int v80_0), .val (.int v85_0), .val (.int v90_0), .val (.int v95_0), .val (.int v100_0)] [(.int (0 : Int32))])) _
            exact Steps.refl _)
          subst hr128
          exact ⟨T127, _, (0 : Int32), X127, eh127, N127', (by rw [if_pos hc139, if_neg hc150]), K138⟩
      · have K139 : Steps p.tables e below _ (T121.setTop (mkF m 169 #[.val (.int p0), .val (.int p1), .val (.long q2), .second, .val (.long q3), .second, .val (.ref b1), .val (.int v75_0), .val (.int v80_0), .val (.int v85_0), .val (.int v90_0), .val (.int v95_0), .val (.int v100_0)] [(.int (0 : Int32))])) := R125.trans (by
          show Steps p.tables e below (T121.setTop (mkF m 139 #[.val (.int p0), .val (.int p1), .val (.long q2), .second, .val (.long q3), .second, .val (.ref b1), .val (.int v75_0), .val (.int v80_0), .val (.int v85_0), .val (.int v90_0), .val (.int v95_0), .val (.int v100_0)] [(.int v80_0), (.int r122)])) _
          refine XS.icmpYes X121.here hx rfl (pc0 := 139) (pc' := 168) rfl (hb hby at_139) rfl (feq hc139).2 (by decide) (by decide) ?_
          show Steps p.tables e below (T121.setTop (mkF m 168 #[.val (.int p0), .val (.int p1), .val (.long q2), .second, .val (.long q3), .second, .val (.ref b1), .val (.int v75_0), .val (.int v80_0), .val (.int v85_0), .val (.int v90_0), .val (.int v95_0), .val (.int v100_0)] [])) _
          refine XS.iconst X121.here hx rfl (hb hby at_168) ?_
          show Steps p.tables e below (T121.setTop (mkF m 169 #[.val (.int p0), .val (.int p1), .val (.long q2), .second, .val (.long q3), .second, .val (.ref b1), .val (.int v75_0), .val (.int v80_0), .val (.int v85_0), .val (.int v90_0), .val (.int v95_0), .val (.int v100_0)] [(.int (0 : Int32))])) _
          exact Steps.refl _)
        exact ⟨T121, _, (0 : Int32), X121, eh121, N121', (by rw [if_neg hc139]), K139⟩
    have K140 := K124.trans S125
    have hone : (v125_0 &&& 1) = (1 : Int32) := own_law_1 p0 p1 q2 q3 v75_0 v80_0 v85_0 v90_0 v95_0 v100_0 r122 v125_0 hv75_0 hv80_0 hv85_0 hv90_0 hv95_0 hv100_0 hr122 hv125_0
    obtain ⟨fs, hr, hrun, hended, hW, hsame⟩ := X125.leave (v := some (.int (v125_0 &&& 1))) (fun h => by rw [Bd.returns] at h; cases h)
    exact ⟨_, _, K140.trans (retN X125 hx (t := .boolean) Bd.returns (by simp) (hb hby at_169) hr), hrun, hended, _, _, rfl, ⟨by rw [hone], N125⟩, ⟨_, rfl⟩, hW, hsame.mono (by decide) (by decide)⟩
  · rw [hcap] at K3
    have Z_141 : n0 ≤ h1.size := (Nat.le_trans Z0 E1.1)
    obtain ⟨_, _, ⟨T142, L142, k142, n142⟩, -, X142, ⟨Lc142, hQ142, l142, y142, z142⟩, st142⟩ := X1.specialBack hx (y := (⟨"com/example/spanfold/spanfold/RangeList", "<init>", "(I)V"⟩ : MethodName)) rfl hown (mvT hZ (hw _ (List.mem_of_getElem? (i := 3) rfl))) (mvT hZ (hw _ (List.mem_of_getElem? (i := 4) rfl))) (mvT hZ (hw _ (List.mem_of_getElem? (i := 5) rfl))) (by decide) (backOf (W := 1) (rm1 l Z a0 hw [] b1 (2 : Int32) (0 : Int32) .null .null .null h1 n0 Z_141 A1 F1_size ge_b1 (by decide) F1_froms F1_tos F1_ends) hZ (hw _ (List.mem_of_getElem? (i := 5) rfl)) (hw _ (List.mem_of_getElem? (i := 2) rfl)) (by decide) (by decide)) (g := (mkF m 7 #[.val (.int p0), .val (.int p1), .val (.long q2), .second, .val (.long q3), .second, .unset, .unset, .unset, .unset, .unset, .unset, .unset] [(.int (2 : Int32)), (.ref b1), (.ref b1)])) rfl (by rw [hml]; rfl) K3 (a := b1) (argsL := [(.int (2 : Int32))]) (rest := [(.ref b1)]) (lenOf pd_4 rfl) rfl (by show 2 * 0 + _ ≤ _; exact Nat.le_of_eq rfl) (hb hby at_7) (fun _ _ => ⟨rfl, e1, (by decide : 1 + 3 ≤ _), (by decide : 4 + 9 ≤ _)⟩)
    dsimp only [Pt.U, Pt.locs, Pt.cells, Pt.slots] at X142 l142 y142 z142 st142 hQ142
    subst l142 y142 z142
    obtain ⟨b142_b5, b142_b12, b142_b23, k5_142, k12_142, k23_142, rfl, N142, Kp142, Q142_0, Q142_1, Q142_2, Q142_3, Q142_4, Q142_5, Q142_6, Q142_7, Q142_8, Q142_9, Q142_10, sz142_b5, sz142_b12, sz142_b23, ne142_14, ne142_15, ne142_16⟩ := hQ142
    have ne_b1_b142_b5 : b1 ≠ b142_b5 := Nat.ne_of_lt (Nat.lt_of_lt_of_le A1.lt sz142_b5)
    have ge_b142_b5 : n0 ≤ b142_b5 := Nat.le_trans Z_141 sz142_b5
    have ne_b1_b142_b12 : b1 ≠ b142_b12 := Nat.ne_of_lt (Nat.lt_of_lt_of_le A1.lt sz142_b12)
    have ge_b142_b12 : n0 ≤ b142_b12 := Nat.le_trans Z_141 sz142_b12
    have ne_b1_b142_b23 : b1 ≠ b142_b23 := Nat.ne_of_lt (Nat.lt_of_lt_of_le A1.lt sz142_b23)
    have ge_b142_b23 : n0 ≤ b142_b23 := Nat.le_trans Z_141 sz142_b23
    have N142' := Fr.app N0 N142
    have K143 : Steps p.tables e below _ (T142.setTop (mkF m 10 #[.val (.int p0), .val (.int p1), .val (.long q2), .second, .val (.long q3), .second, .unset, .unset, .unset, .unset, .unset, .unset, .unset] [(.ref b1)])) := st142
    have K144 : Steps p.tables e below _ (T142.setTop (mkF m 15 #[.val (.int p0), .val (.int p1), .val (.long q2), .second, .val (.long q3), .second, .val (.ref b1), .unset, .unset, .unset, .unset, .unset, .unset] [(.int (p1 &&& (1 : Int32)))])) := K143.trans (by
      show Steps p.tables e below (T142.setTop (mkF m 10 #[.val (.int p0), .val (.int p1), .val (.long q2), .second, .val (.long q3), .second, .unset, .unset, .unset, .unset, .unset, .unset, .unset] [(.ref b1)])) _
      refine XS.astore X142.here hx rfl (hb hby at_10) rfl rfl (l' := #[.val (.int p0), .val (.int p1), .val (.long q2), .second, .val (.long q3), .second, .val (.ref b1), .unset, .unset, .unset, .unset, .unset, .unset]) rfl ?_
      show Steps p.tables e below (T142.setTop (mkF m 12 #[.val (.int p0), .val (.int p1), .val (.long q2), .second, .val (.long q3), .second, .val (.ref b1), .unset, .unset, .unset, .unset, .unset, .unset] [])) _
      refine XS.iloadN X142.here hx rfl (hb hby at_12) rfl ?_
      show Steps p.tables e below (T142.setTop (mkF m 13 #[.val (.int p0), .val (.int p1), .val (.long q2), .second, .val (.long q3), .second, .val (.ref b1), .unset, .unset, .unset, .unset, .unset, .unset] [(.int p1)])) _
      refine XS.iconst X142.here hx rfl (hb hby at_13) ?_
      show Steps p.tables e below (T142.setTop (mkF m 14 #[.val (.int p0), .val (.int p1), .val (.long q2), .second, .val (.long q3), .second, .val (.ref b1), .unset, .unset, .unset, .unset, .unset, .unset] [(.int (1 : Int32)), (.int p1)])) _
      refine XS.iand X142.here hx rfl (hb hby at_14) rfl ?_
      show Steps p.tables e below (T142.setTop (mkF m 15 #[.val (.int p0), .val (.int p1), .val (.long q2), .second, .val (.long q3), .second, .val (.ref b1), .unset, .unset, .unset, .unset, .unset, .unset] [(.int (p1 &&& (1 : Int32)))])) _
      exact Steps.refl _)
    obtain ⟨v145_0, hv145_0, S145⟩ : ∃ (v145_0 : Int32), (if (p1 &&& (1 : Int32)) = (0 : Int32) then (0 : Int32) else (1 : Int32)) = v145_0 ∧ Steps p.tables e below (T142.setTop (mkF m 15 #[.val (.int p0), .val (.int p1), .val (.long q2), .second, .val (.long q3), .second, .val (.ref b1), .unset, .unset, .unset, .unset, .unset, .unset] [(.int (p1 &&& (1 : Int32)))])) (T142.setTop (mkF m 23 #[.val (.int p0), .val (.int p1), .val (.long q2), .second, .val (.long q3), .second, .val (.ref b1), .unset, .unset, .unset, .unset, .unset, .unset] [(.int v145_0)])) := by
      have R145 : Steps p.tables e below (T142.setTop (mkF m 15 #[.val (.int p0), .val (.int p1), .val (.long q2), .second, .val (.long q3), .second, .val (.ref b1), .unset, .unset, .unset, .unset, .unset, .unset] [(.int (p1 &&& (1 : Int32)))])) (T142.setTop (mkF m 15 #[.val (.int p0), .val (.int p1), .val (.long q2), .second, .val (.long q3), .second, .val (.ref b1), .unset, .unset, .unset, .unset, .unset, .unset] [(.int (p1 &&& (1 : Int32)))])) := Steps.refl _
      by_cases hc15 : (p1 &&& (1 : Int32)) = (0 : Int32)
      · have K146 : Steps p.tables e below _ (T142.setTop (mkF m 23 #[.val (.int p0), .val (.int p1), .val (.long q2), .second, .val (.long q3), .second, .val (.ref b1), .unset, .unset, .unset, .unset, .unset, .unset] [(.int (0 : Int32))])) := R145.trans (by
          show Steps p.tables e below (T142.setTop (mkF m 15 #[.val (.int p0), .val (.int p1), .val (.long q2), .second, .val (.long q3), .second, .val (.ref b1), .unset, .unset, .unset, .unset, .unset, .unset] [(.int (p1 &&& (1 : Int32)))])) _
          refine XS.ifYes X142.here hx rfl (pc0 := 15) (pc' := 22) rfl (hb hby at_15) rfl ((if0 _ _).trans (teq hc15).1) (by decide) (by decide) ?_
          show Steps p.tables e below (T142.setTop (mkF m 22 #[.val (.int p0), .val (.int p1), .val (.long q2), .second, .val (.long q3), .second, .val (.ref b1), .unset, .unset, .unset, .unset, .unset, .unset] [])) _
          refine XS.iconst X142.here hx rfl (hb hby at_22) ?_
          show Steps p.tables e below (T142.setTop (mkF m 23 #[.val (.int p0), .val (.int p1), .val (.long q2), .second, .val (.long q3), .second, .val (.ref b1), .unset, .unset, .unset, .unset, .unset, .unset] [(.int (0 : Int32))])) _
          exact Steps.refl _)
        exact ⟨(0 : Int32), (by rw [if_pos hc15]), K146⟩
      · have K147 : Steps p.tables e below _ (T142.setTop (mkF m 23 #[.val (.int p0), .val (.int p1), .val (.long q2), .second, .val (.long q3), .second, .val (.ref b1), .unset, .unset, .unset, .unset, .unset, .unset] [(.int (1 : Int32))])) := R145.trans (by
          show Steps p.tables e below (T142.setTop (mkF m 15 #[.val (.int p0), .val (.int p1), .val (.long q2), .second, .val (.long q3), .second, .val (.ref b1), .unset, .unset, .unset, .unset, .unset, .unset] [(.int (p1 &&& (1 : Int32)))])) _
          refine XS.ifNo X142.here hx rfl (hb hby at_15) rfl ((if0 _ _).trans (feq hc15).1) ?_
          show Steps p.tables e below (T142.setTop (mkF m 18 #[.val (.int p0), .val (.int p1), .val (.long q2), .second, .val (.long q3), .second, .val (.ref b1), .unset, .unset, .unset, .unset, .unset, .unset] [])) _
          refine XS.iconst X142.here hx rfl (hb hby at_18) ?_
          show Steps p.tables e below (T142.setTop (mkF m 19 #[.val (.int p0), .val (.int p1), .val (.long q2), .second, .val (.long q3), .second, .val (.ref b1), .unset, .unset, .unset, .unset, .unset, .unset] [(.int (1 : Int32))])) _
          refine XS.goto X142.here hx rfl (pc0 := 19) (pc' := 23) rfl (hb hby at_19) (by decide) (by decide) ?_
          show Steps p.tables e below (T142.setTop (mkF m 23 #[.val (.int p0), .val (.int p1), .val (.long q2), .second, .val (.long q3), .second, .val (.ref b1), .unset, .unset, .unset, .unset, .unset, .unset] [(.int (1 : Int32))])) _
          exact Steps.refl _)
        exact ⟨(1 : Int32), (by rw [if_neg hc15]), K147⟩
    have K148 := K144.trans S145
    have K149 : Steps p.tables e below _ (T142.setTop (mkF m 28 #[.val (.int p0), .val (.int p1), .val (.long q2), .second, .val (.long q3), .second, .val (.ref b1), .val (.int v145_0), .unset, .unset, .unset, .unset, .unset] [(.int (p1 &&& (2 : Int32)))])) := K148.trans (by
      show Steps p.tables e below (T142.setTop (mkF m 23 #[.val (.int p0), .val (.int p1), .val (.long q2), .second, .val (.long q3), .second, .val (.ref b1), .unset, .unset, .unset, .unset, .unset, .unset] [(.int v145_0)])) _
      refine XS.istore X142.here hx rfl (hb hby at_23) rfl (l' := #[.val (.int p0), .val (.int p1), .val (.long q2), .second, .val (.long q3), .second, .val (.ref b1), .val (.int v145_0), .unset, .unset, .unset, .unset, .unset]) rfl ?_
      show Steps p.tables e below (T142.setTop (mkF m 25 #[.val (.int p0), .val (.int p1), .val (.long q2), .second, .val (.long q3), .second, .val (.ref b1), .val (.int v145_0), .unset, .unset, .unset, .unset, .unset] [])) _
      refine XS.iloadN X142.here hx rfl (hb hby at_25) rfl ?_
      show Steps p.tables e below (T142.setTop (mkF m 26 #[.val (.int p0), .val (.int p1), .val (.long q2), .second, .val (.long q3), .second, .val (.ref b1), .val (.int v145_0), .unset, .unset, .unset, .unset, .unset] [(.int p1)])) _
      refine XS.iconst X142.here hx rfl (hb hby at_26) ?_
      show Steps p.tables e below (T142.setTop (mkF m 27 #[.val (.int p0), .val (.int p1), .val (.long q2), .second, .val (.long q3), .second, .val (.ref b1), .val (.int v145_0), .unset, .unset, .unset, .unset, .unset] [(.int (2 : Int32)), (.int p1)])) _
      refine XS.iand X142.here hx rfl (hb hby at_27) rfl ?_
      show Steps p.tables e below (T142.setTop (mkF m 28 #[.val (.int p0), .val (.int p1), .val (.long q2), .second, .val (.long q3), .second, .val (.ref b1), .val (.int v145_0), .unset, .unset, .unset, .unset, .unset] [(.int (p1 &&& (2 : Int32)))])) _
      exact Steps.refl _)
    obtain ⟨v150_0, hv150_0, S150⟩ : ∃ (v150_0 : Int32), (if (p1 &&& (2 : Int32)) = (0 : Int32) then (0 : Int32) else (1 : Int32)) = v150_0 ∧ Steps p.tables e below (T142.setTop (mkF m 28 #[.val (.int p0), .val (.int p1), .val (.long q2), .second, .val (.long q3), .second, .val (.ref b1), .val (.int v145_0), .unset, .unset, .unset, .unset, .unset] [(.int (p1 &&& (2 : Int32)))])) (T142.setTop (mkF m 36 #[.val (.int p0), .val (.int p1), .val (.long q2), .second, .val (.long q3), .second, .val (.ref b1), .val (.int v145_0), .unset, .unset, .unset, .unset, .unset] [(.int v150_0)])) := by
      have R150 : Steps p.tables e below (T142.setTop (mkF m 28 #[.val (.int p0), .val (.int p1), .val (.long q2), .second, .val (.long q3), .second, .val (.ref b1), .val (.int v145_0), .unset, .unset, .unset, .unset, .unset] [(.int (p1 &&& (2 : Int32)))])) (T142.setTop (mkF m 28 #[.val (.int p0), .val (.int p1), .val (.long q2), .second, .val (.long q3), .second, .val (.ref b1), .val (.int v145_0), .unset, .unset, .unset, .unset, .unset] [(.int (p1 &&& (2 : Int32)))])) := Steps.refl _
      by_cases hc28 : (p1 &&& (2 : Int32)) = (0 : Int32)
      · have K151 : Steps p.tables e below _ (T142.setTop (mkF m 36 #[.val (.int p0), .val (.int p1), .val (.long q2), .second, .val (.long q3), .second, .val (.ref b1), .val (.int v145_0), .unset, .unset, .unset, .unset, .unset] [(.int (0 : Int32))])) := R150.trans (by
          show Steps p.tables e below (T142.setTop (mkF m 28 #[.val (.int p0), .val (.int p1), .val (.long q2), .second, .val (.long q3), .second, .val (.ref b1), .val (.int v145_0), .unset, .unset, .unset, .unset, .unset] [(.int (p1 &&& (2 : Int32)))])) _
          refine XS.ifYes X142.here hx rfl (pc0 := 28) (pc' := 35) rfl (hb hby at_28) rfl ((if0 _ _).trans (teq hc28).1) (by decide) (by decide) ?_
          show Steps p.tables e below (T142.setTop (mkF m 35 #[.val (.int p0), .val (.int p1), .val (.long q2), .second, .val (.long q3), .second, .val (.ref b1), .val (.int v145_0), .unset, .unset, .unset, .unset, .unset] [])) _
          refine XS.iconst X142.here hx rfl (hb hby at_35) ?_
          show Steps p.tables e below (T142.setTop (mkF m 36 #[.val (.int p0), .val (.int p1), .val (.long q2), .second, .val (.long q3), .second, .val (.ref b1), .val (.int v145_0), .unset, .unset, .unset, .unset, .unset] [(.int (0 : Int32))])) _
          exact Steps.refl _)
        exact ⟨(0 : Int32), (by rw [if_pos hc28]), K151⟩
      · have K152 : Steps p.tables e below _ (T142.setTop (mkF m 36 #[.val (.int p0), .val (.int p1), .val (.long q2), .second, .val (.long q3), .second, .val (.ref b1), .val (.int v145_0), .unset, .unset, .unset, .unset, .unset] [(.int (1 : Int32))])) := R150.trans (by
          show Steps p.tables e below (T142.setTop (mkF m 28 #[.val (.int p0), .val (.int p1), .val (.long q2), .second, .val (.long q3), .second, .val (.ref b1), .val (.int v145_0), .unset, .unset, .unset, .unset, .unset] [(.int (p1 &&& (2 : Int32)))])) _
          refine XS.ifNo X142.here hx rfl (hb hby at_28) rfl ((if0 _ _).trans (feq hc28).1) ?_
          show Steps p.tables e below (T142.setTop (mkF m 31 #[.val (.int p0), .val (.int p1), .val (.long q2), .second, .val (.long q3), .second, .val (.ref b1), .val (.int v145_0), .unset, .unset, .unset, .unset, .unset] [])) _
          refine XS.iconst X142.here hx rfl (hb hby at_31) ?_
          show Steps p.tables e below (T142.setTop (mkF m 32 #[.val (.int p0), .val (.int p1), .val (.long q2), .second, .val (.long q3), .second, .val (.ref b1), .val (.int v145_0), .unset, .unset, .unset, .unset, .unset] [(.int (1 : Int32))])) _
          refine XS.goto X142.here hx rfl (pc0 := 32) (pc' := 36) rfl (hb hby at_32) (by decide) (by decide) ?_
          show Steps p.tables e below (T142.setTop (mkF m 36 #[.val (.int p0), .val (.int p1), .val (.long q2), .second, .val (.long q3), .second, .val (.ref b1), .val (.int v145_0), .unset, .unset, .unset, .unset, .unset] [(.int (1 : Int32))])) _
          exact Steps.refl _)
        exact ⟨(1 : Int32), (by rw [if_neg hc28]), K152⟩
    have K153 := K149.trans S150
    have K154 : Steps p.tables e below _ (T142.setTop (mkF m 41 #[.val (.int p0), .val (.int p1), .val (.long q2), .second, .val (.long q3), .second, .val (.ref b1), .val (.int v145_0), .val (.int v150_0), .unset, .unset, .unset, .unset] [(.int (p1 &&& (4 : Int32)))])) := K153.trans (by
      show Steps p.tables e below (T142.setTop (mkF m 36 #[.val (.int p0), .val (.int p1), .val (.long q2), .second, .val (.long q3), .second, .val (.ref b1), .val (.int v145_0), .unset, .unset, .unset, .unset, .unset] [(.int v150_0)])) _
      refine XS.istore X142.here hx rfl (hb hby at_36) rfl (l' := #[.val (.int p0), .val (.int p1), .val (.long q2), .second, .val (.long q3), .second, .val (.ref b1), .val (.int v145_0), .val (.int v150_0), .unset, .unset, .unset, .unset]) rfl ?_
      show Steps p.tables e below (T142.setTop (mkF m 38 #[.val (.int p0), .val (.int p1), .val (.long q2), .second, .val (.long q3), .second, .val (.ref b1), .val (.int v145_0), .val (.int v150_0), .unset, .unset, .unset, .unset] [])) _
      refine XS.iloadN X142.here hx rfl (hb hby at_38) rfl ?_
      show Steps p.tables e below (T142.setTop (mkF m 39 #[.val (.int p0), .val (.int p1), .val (.long q2), .second, .val (.long q3), .second, .val (.ref b1), .val (.int v145_0), .val (.int v150_0), .unset, .unset, .unset, .unset] [(.int p1)])) _
      refine XS.iconst X142.here hx rfl (hb hby at_39) ?_
      show Steps p.tables e below (T142.setTop (mkF m 40 #[.val (.int p0), .val (.int p1), .val (.long q2), .second, .val (.long q3), .second, .val (.ref b1), .val (.int v145_0), .val (.int v150_0), .unset, .unset, .unset, .unset] [(.int (4 : Int32)), (.int p1)])) _
      refine XS.iand X142.here hx rfl (hb hby at_40) rfl ?_
      show Steps p.tables e below (T142.setTop (mkF m 41 #[.val (.int p0), .val (.int p1), .val (.long q2), .second, .val (.long q3), .second, .val (.ref b1), .val (.int v145_0), .val (.int v150_0), .unset, .unset, .unset, .unset] [(.int (p1 &&& (4 : Int32)))])) _
      exact Steps.refl _)
    obtain ⟨v155_0, hv155_0, S155⟩ : ∃ (v155_0 : Int32), (if (p1 &&& (4 : Int32)) = (0 : Int32) then (0 : Int32) else (1 : Int32)) = v155_0 ∧ Steps p.tables e below (T142.setTop (mkF m 41 #[.val (.int p0), .val (.int p1), .val (.long q2), .second, .val (.long q3), .second, .val (.ref b1), .val (.int v145_0), .val (.int v150_0), .unset, .unset, .unset, .unset] [(.int (p1 &&& (4 : Int32)))])) (T142.setTop (mkF m 49 #[.val (.int p0), .val (.int p1), .val (.long q2), .second, .val (.long q3), .second, .val (.ref b1), .val (.int v145_0), .val (.int v150_0), .unset, .unset, .unset, .unset] [(.int v155_0)])) := by
      have R155 : Steps p.tables e below (T142.setTop (mkF m 41 #[.val (.int p0), .val (.int p1), .val (.long q2), .second, .val (.long q3), .second, .val (.ref b1), .val (.int v145_0), .val (.int v150_0), .unset, .unset, .unset, .unset] [(.int (p1 &&& (4 : Int32)))])) (T142.setTop (mkF m 41 #[.val (.int p0), .val (.int p1), .val (.long q2), .second, .val (.long q3), .second, .val (.ref b1), .val (.int v145_0), .val (.int v150_0), .unset, .unset, .unset, .unset] [(.int (p1 &&& (4 : Int32)))])) := Steps.refl _
      by_cases hc41 : (p1 &&& (4 : Int32)) = (0 : Int32)
      · have K156 : Steps p.tables e below _ (T142.setTop (mkF m 49 #[.val (.int p0), .val (.int p1), .val (.long q2), .second, .val (.long q3), .second, .val (.ref b1), .val (.int v145_0), .val (.int v150_0), .unset, .unset, .unset, .unset] [(.int (0 : Int32))])) := R155.trans (by
          show Steps p.tables e below (T142.setTop (mkF m 41 #[.val (.int p0), .val (.int p1), .val (.long q2), .second, .val (.long q3), .second, .val (.ref b1), .val (.int v145_0), .val (.int v150_0), .unset, .unset, .unset, .unset] [(.int (p1 &&& (4 : Int32)))])) _
          refine XS.ifYes X142.here hx rfl (pc0 := 41) (pc' := 48) rfl (hb hby at_41) rfl ((if0 _ _).trans (teq hc41).1) (by decide) (by decide) ?_
          show Steps p.tables e below (T142.setTop (mkF m 48 #[.val (.int p0), .val (.int p1), .val (.long q2), .second, .val (.long q3), .second, .val (.ref b1), .val (.int v145_0), .val (.int v150_0), .unset, .unset, .unset, .unset] [])) _
          refine XS.iconst X142.here hx rfl (hb hby at_48) ?_
          show Steps p.tables e below (T142.setTop (mkF m 49 #[.val (.int p0), .val (.int p1), .val (.long q2), .second, .val (.long q3), .second, .val (.ref b1), .val (.int v145_0), .val (.int v150_0), .unset, .unset, .unset, .unset] [(.int (0 : Int32))])) _
          exact Steps.refl _)
        exact ⟨(0 : Int32), (by rw [if_pos hc41]), K156⟩
      · have K157 : Steps p.tables e below _ (T142.setTop (mkF m 49 #[.val (.int p0), .val (.int p1), .val (.long q2), .second, .val (.long q3), .second, .val (.ref b1), .val (.int v145_0), .val (.int v150_0), .unset, .unset, .unset, .unset] [(.int (1 : Int32))])) := R155.trans (by
          show Steps p.tables e below (T142.setTop (mkF m 41 #[.val (.int p0), .val (.int p1), .val (.long q2), .second, .val (.long q3), .second, .val (.ref b1), .val (.int v145_0), .val (.int v150_0), .unset, .unset, .unset, .unset] [(.int (p1 &&& (4 : Int32)))])) _
          refine XS.ifNo X142.here hx rfl (hb hby at_41) rfl ((if0 _ _).trans (feq hc41).1) ?_
          show Steps p.tables e below (T142.setTop (mkF m 44 #[.val (.int p0), .val (.int p1), .val (.long q2), .second, .val (.long q3), .second, .val (.ref b1), .val (.int v145_0), .val (.int v150_0), .unset, .unset, .unset, .unset] [])) _
          refine XS.iconst X142.here hx rfl (hb hby at_44) ?_
          show Steps p.tables e below (T142.setTop (mkF m 45 #[.val (.int p0), .val (.int p1), .val (.long q2), .second, .val (.long q3), .second, .val (.ref b1), .val (.int v145_0), .val (.int v150_0), .unset, .unset, .unset, .unset] [(.int (1 : Int32))])) _
          refine XS.goto X142.here hx rfl (pc0 := 45) (pc' := 49) rfl (hb hby at_45) (by decide) (by decide) ?_
          show Steps p.tables e below (T142.setTop (mkF m 49 #[.val (.int p0), .val (.int p1), .val (.long q2), .second, .val (.long q3), .second, .val (.ref b1), .val (.int v145_0), .val (.int v150_0), .unset, .unset, .unset, .unset] [(.int (1 : Int32))])) _
          exact Steps.refl _)
        exact ⟨(1 : Int32), (by rw [if_neg hc41]), K157⟩
    have K158 := K154.trans S155
    have K159 : Steps p.tables e below _ (T142.setTop (mkF m 55 #[.val (.int p0), .val (.int p1), .val (.long q2), .second, .val (.long q3), .second, .val (.ref b1), .val (.int v145_0), .val (.int v150_0), .val (.int v155_0), .unset, .unset, .unset] [(.int (p1 &&& (8 : Int32)))])) := K158.trans (by
      show Steps p.tables e below (T142.setTop (mkF m 49 #[.val (.int p0), .val (.int p1), .val (.long q2), .second, .val (.long q3), .second, .val (.ref b1), .val (.int v145_0), .val (.int v150_0), .unset, .unset, .unset, .unset] [(.int v155_0)])) _
      refine XS.istore X142.here hx rfl (hb hby at_49) rfl (l' := #[.val (.int p0), .val (.int p1), .val (.long q2), .second, .val (.long q3), .second, .val (.ref b1), .val (.int v145_0), .val (.int v150_0), .val (.int v155_0), .unset, .unset, .unset]) rfl ?_
      show Steps p.tables e below (T142.setTop (mkF m 51 #[.val (.int p0), .val (.int p1), .val (.long q2), .second, .val (.long q3), .second, .val (.ref b1), .val (.int v145_0), .val (.int v150_0), .val (.int v155_0), .unset, .unset, .unset] [])) _
      refine XS.iloadN X142.here hx rfl (hb hby at_51) rfl ?_
      show Steps p.tables e below (T142.setTop (mkF m 52 #[.val (.int p0), .val (.int p1), .val (.long q2), .second, .val (.long q3), .second, .val (.ref b1), .val (.int v145_0), .val (.int v150_0), .val (.int v155_0), .unset, .unset, .unset] [(.int p1)])) _
      refine XS.bipush X142.here hx rfl (hb hby at_52) ?_
      show Steps p.tables e below (T142.setTop (mkF m 54 #[.val (.int p0), .val (.int p1), .val (.long q2), .second, .val (.long q3), .second, .val (.ref b1), .val (.int v145_0), .val (.int v150_0), .val (.int v155_0), .unset, .unset, .unset] [(.int (8 : Int32)), (.int p1)])) _
      refine XS.iand X142.here hx rfl (hb hby at_54) rfl ?_
      show Steps p.tables e below (T142.setTop (mkF m 55 #[.val (.int p0), .val (.int p1), .val (.long q2), .second, .val (.long q3), .second, .val (.ref b1), .val (.int v145_0), .val (.int v150_0), .val (.int v155_0), .unset, .unset, .unset] [(.int (p1 &&& (8 : Int32)))])) _
      exact Steps.refl _)
    obtain ⟨v160_0, hv160_0, S160⟩ : ∃ (v160_0 : Int32), (if (p1 &&& (8 : Int32)) = (0 : Int32) then (0 : Int32) else (1 : Int32)) = v160_0 ∧ Steps p.tables e below (T142.setTop (mkF m 55 #[.val (.int p0), .val (.int p1), .val (.long q2), .second, .val (.long q3), .second, .val (.ref b1), .val (.int v145_0), .val (.int v150_0), .val (.int v155_0), .unset, .unset, .unset] [(.int (p1 &&& (8 : Int32)))])) (T142.setTop (mkF m 63 #[.val (.int p0), .val (.int p1), .val (.long q2), .second, .val (.long q3), .second, .val (.ref b1), .val (.int v145_0), .val (.int v150_0), .val (.int v155_0), .unset, .unset, .unset] [(.int v160_0)])) := by
      have R160 : Steps p.tables e below (T142.setTop (mkF m 55 #[.val (.int p0), .val (.int p1), .val (.long q2), .second, .val (.long q3), .second, .val (.ref b1), .val (.int v145_0), .val (.int v150_0), .val (.int v155_0), .unset, .unset, .unset] [(.int (p1 &&& (8 : Int32)))])) (T142.setTop (mkF m 55 #[.val (.int p0), .val (.int p1), .val (.long q2), .second, .val (.long q3), .second, .val (.ref b1), .val (.int v145_0), .val (.int v150_0), .val (.int v155_0), .unset, .unset, .unset] [(.int (p1 &&& (8 : Int32)))])) := Steps.refl _
      by_cases hc55 : (p1 &&& (8 : Int32)) = (0 : Int32)
      · have K161 : Steps p.tables e below _ (T142.setTop (mkF m 63 #[.val (.int p0), .val (.int p1), .val (.long q2), .second, .val (.long q3), .second, .val (.ref b1), .val (.int v145_0), .val (.int v150_0), .val (.int v155_0), .unset, .unset, .unset] [(.int (0 : Int32))])) := R160.trans (by
          show Steps p.tables e below (T142.setTop (mkF m 55 #[.val (.int p0), .val (.int p1), .val (.long q2), .second, .val (.long q3), .second, .val (.ref b1), .val (.int v145_0), .val (.int v150_0), .val (.int v155_0), .unset, .unset, .unset] [(.int (p1 &&& (8 : Int32)))])) _
          refine XS.ifYes X142.here hx rfl (pc0 := 55) (pc' := 62) rfl (hb hby at_55) rfl ((if0 _ _).trans (teq hc55).1) (by decide) (by decide) ?_
          show Steps p.tables e below (T142.setTop (mkF m 62 #[.val (.int p0), .val (.int p1), .val (.long q2), .second, .val (.long q3), .second, .val (.ref b1), .val (.int v145_0), .val (.int v150_0), .val (.int v155_0), .unset, .unset, .unset] [])) _
          refine XS.iconst X142.here hx rfl (hb hby at_62) ?_
          show Steps p.tables e below (T142.setTop (mkF m 63 #[.val (.int p0), .val (.int p1), .val (.long q2), .second, .val (.long q3), .second, .val (.ref b1), .val (.int v145_0), .val (.int v150_0), .val (.int v155_0), .unset, .unset, .unset] [(.int (0 : Int32))])) _
          exact Steps.refl _)
        exact ⟨(0 : Int32), (by rw [if_pos hc55]), K161⟩
      · have K162 : Steps p.tables e below _ (T142.setTop (mkF m 63 #[.val (.int p0), .val (.int p1), .val (.long q2), .second, .val (.long q3), .second, .val (.ref b1), .val (.int v145_0), .val (.int v150_0), .val (.int v155_0), .unset, .unset, .unset] [(.int (1 : Int32))])) := R160.trans (by
          show Steps p.tables e below (T142.setTop (mkF m 55 #[.val (.int p0), .val (.int p1), .val (.long q2), .second, .val (.long q3), .second, .val (.ref b1), .val (.int v145_0), .val (.int v150_0), .val (.int v155_0), .unset, .unset, .unset] [(.int (p1 &&& (8 : Int32)))])) _
          refine XS.ifNo X142.here hx rfl (hb hby at_55) rfl ((if0 _ _).trans (feq hc55).1) ?_
          show Steps p.tables e below (T142.setTop (mkF m 58 #[.val (.int p0), .val (.int p1), .val (.long q2), .second, .val (.long q3), .second, .val (.ref b1), .val (.int v145_0), .val (.int v150_0), .val (.int v155_0), .unset, .unset, .unset] [])) _
          refine XS.iconst X142.here hx rfl (hb hby at_58) ?_
          show Steps p.tables e below (T142.setTop (mkF m 59 #[.val (.int p0), .val (.int p1), .val (.long q2), .second, .val (.long q3), .second, .val (.ref b1), .val (.int v145_0), .val (.int v150_0), .val (.int v155_0), .unset, .unset, .unset] [(.int (1 : Int32))])) _
          refine XS.goto X142.here hx rfl (pc0 := 59) (pc' := 63) rfl (hb hby at_59) (by decide) (by decide) ?_
          show Steps p.tables e below (T142.setTop (mkF m 63 #[.val (.int p0), .val (.int p1), .val (.long q2), .second, .val (.long q3), .second, .val (.ref b1), .val (.int v145_0), .val (.int v150_0), .val (.int v155_0), .unset, .unset, .unset] [(.int (1 : Int32))])) _
          exact Steps.refl _)
        exact ⟨(1 : Int32), (by rw [if_neg hc55]), K162⟩
    have K163 := K159.trans S160
    have K164 : Steps p.tables e below _ (T142.setTop (mkF m 69 #[.val (.int p0), .val (.int p1), .val (.long q2), .second, .val (.long q3), .second, .val (.ref b1), .val (.int v145_0), .val (.int v150_0), .val (.int v155_0), .val (.int v160_0), .unset, .unset] [(.int (p1 &&& (16 : Int32)))])) := K163.trans (by
      show Steps p.tables e below (T142.setTop (mkF m 63 #[.val (.int p0), .val (.int p1), .val (.long q2), .second, .val (.long q3), .second, .val (.ref b1), .val (.int v145_0), .val (.int v150_0), .val (.int v155_0), .unset, .unset, .unset] [(.int v160_0)])) _
      refine XS.istore X142.here hx rfl (hb hby at_63) rfl (l' := #[.val (.int p0), .val (.int p1), .val (.long q2), .second, .val (.long q3), .second, .val (.ref b1), .val (.int v145_0), .val (.int v150_0), .val (.int v155_0), .val (.int v160_0), .unset, .unset]) rfl ?_
      show Steps p.tables e below (T142.setTop (mkF m 65 #[.val (.int p0), .val (.int p1), .val (.long q2), .second, .val (.long q3), .second, .val (.ref b1), .val (.int v145_0), .val (.int v150_0), .val (.int v155_0), .val (.int v160_0), .unset, .unset] [])) _
      refine XS.iloadN X142.here hx rfl (hb hby at_65) rfl ?_
      show Steps p.tables e below (T142.setTop (mkF m 66 #[.val (.int p0), .val (.int p1), .val (.long q2), .second, .val (.long q3), .second, .val (.ref b1), .val (.int v145_0), .val (.int v150_0), .val (.int v155_0), .val (.int v160_0), .unset, .unset] [(.int p1)])) _
      refine XS.bipush X142.here hx rfl (hb hby at_66) ?_
      show Steps p.tables e below (T142.setTop (mkF m 68 #[.val (.int p0), .val (.int p1), .val (.long q2), .second, .val (.long q3), .second, .val (.ref b1), .val (.int v145_0), .val (.int v150_0), .val (.int v155_0), .val (.int v160_0), .unset, .unset] [(.int (16 : Int32)), (.int p1)])) _
      refine XS.iand X142.here hx rfl (hb hby at_68) rfl ?_
      show Steps p.tables e below (T142.setTop (mkF m 69 #[.val (.int p0), .val (.int p1), .val (.long q2), .second, .val (.long q3), .second, .val (.ref b1), .val (.int v145_0), .val (.int v150_0), .val (.int v155_0), .val (.int v160_0), .unset, .unset] [(.int (p1 &&& (16 : Int32)))])) _
      exact Steps.refl _)
    obtain ⟨v165_0, hv165_0, S165⟩ : ∃ (v165_0 : Int32), (if (p1 &&& (16 : Int32)) = (0 : Int32) then (0 : Int32) else (1 : Int32)) = v165_0 ∧ Steps p.tables e below (T142.setTop (mkF m 69 #[.val (.int p0), .val (.int p1), .val (.long q2), .second, .val (.long q3), .second, .val (.ref b1), .val (.int v145_0), .val (.int v150_0), .val (.int v155_0), .val (.int v160_0), .unset, .unset] [(.int (p1 &&& (16 : Int32)))])) (T142.setTop (mkF m 77 #[.val (.int p0), .val (.int p1), .val (.long q2), .second, .val (.long q3), .second, .val (.ref b1), .val (.int v145_0), .val (.int v150_0), .val (.int v155_0), .val (.int v160_0), .unset, .unset] [(.int v165_0)])) := by
      have R165 : Steps p.tables e below (T142.setTop (mkF m 69 #[.val (.int p0), .val (.int p1), .val (.long q2), .second, .val (.long q3), .second, .val (.ref b1), .val (.int v145_0), .val (.int v150_0), .val (.int v155_0), .val (.int v160_0), .unset, .unset] [(.int (p1 &&& (16 : Int32)))])) (T142.setTop (mkF m 69 #[.val (.int p0), .val (.int p1), .val (.long q2), .second, .val (.long q3), .second, .val (.ref b1), .val (.int v145_0), .val (.int v150_0), .val (.int v155_0), .val (.int v160_0), .unset, .unset] [(.int (p1 &&& (16 : Int32)))])) := Steps.refl _
      by_cases hc69 : (p1 &&& (16 : Int32)) = (0 : Int32)
      · have K166 : Steps p.tables e below _ (T142.setTop (mkF m 77 #[.val (.int p0), .val (.int p1), .val (.long q2), .second, .val (.long q3), .second, .val (.ref b1), .val (.int v145_0), .val (.int v150_0), .val (.int v155_0), .val (.int v160_0), .unset, .unset] [(.int (0 : Int32))])) := R165.trans (by
          show Steps p.tables e below (T142.setTop (mkF m 69 #[.val (.int p0), .val (.int p1), .val (.long q2), .second, .val (.long q3), .second, .val (.ref b1), .val (.int v145_0), .val (.int v150_0), .val (.int v155_0), .val (.int v160_0), .unset, .unset] [(.int (p1 &&& (16 : Int32)))])) _
          refine XS.ifYes X142.here hx rfl (pc0 := 69) (pc' := 76) rfl (hb hby at_69) rfl ((if0 _ _).trans (teq hc69).1) (by decide) (by decide) ?_
          show Steps p.tables e below (T142.setTop (mkF m 76 #[.val (.int p0), .val (.int p1), .val (.long q2), .second, .val (.long q3), .second, .val (.ref b1), .val (.int v145_0), .val (.int v150_0), .val (.int v155_0), .val (.int v160_0), .unset, .unset] [])) _
          refine XS.iconst X142.here hx rfl (hb hby at_76) ?_
          show Steps p.tables e below (T142.setTop (mkF m 77 #[.val (.int p0), .val (.int p1), .val (.long q2), .second, .val (.long q3), .second, .val (.ref b1), .val (.int v145_0), .val (.int v150_0), .val (.int v155_0), .val (.int v160_0), .unset, .unset] [(.int (0 : Int32))])) _
          exact Steps.refl _)
        exact ⟨(0 : Int32), (by rw [if_pos hc69]), K166⟩
      · have K167 : Steps p.tables e below _ (T142.setTop (mkF m 77 #[.val (.int p0), .val (.int p1), .val (.long q2), .second, .val (.long q3), .second, .val (.ref b1), .val (.int v145_0), .val (.int v150_0), .val (.int v155_0), .val (.int v160_0), .unset, .unset] [(.int (1 : Int32))])) := R165.trans (by
          show Steps p.tables e below (T142.setTop (mkF m 69 #[.val (.int p0), .val (.int p1), .val (.long q2), .second, .val (.long q3), .second, .val (.ref b1), .val (.int v145_0), .val (.int v150_0), .val (.int v155_0), .val (.int v160_0), .unset, .unset] [(.int (p1 &&& (16 : Int32)))])) _
          refine XS.ifNo X142.here hx rfl (hb hby at_69) rfl ((if0 _ _).trans (feq hc69).1) ?_
          show Steps p.tables e below (T142.setTop (mkF m 72 #[.val (.int p0), .val (.int p1), .val (.long q2), .second, .val (.long q3), .second, .val (.ref b1), .val (.int v145_0), .val (.int v150_0), .val (.int v155_0), .val (.int v160_0), .unset, .unset] [])) _
          refine XS.iconst X142.here hx rfl (hb hby at_72) ?_
          show Steps p.tables e below (T142.setTop (mkF m 73 #[.val (.int p0), .val (.int p1), .val (.long q2), .second, .val (.long q3), .second, .val (.ref b1), .val (.int v145_0), .val (.int v150_0), .val (.int v155_0), .val (.int v160_0), .unset, .unset] [(.int (1 : Int32))])) _
          refine XS.goto X142.here hx rfl (pc0 := 73) (pc' := 77) rfl (hb hby at_73) (by decide) (by decide) ?_
          show Steps p.tables e below (T142.setTop (mkF m 77 #[.val (.int p0), .val (.int p1), .val (.long q2), .second, .val (.long q3), .second, .val (.ref b1), .val (.int v145_0), .val (.int v150_0), .val (.int v155_0), .val (.int v160_0), .unset, .unset] [(.int (1 : Int32))])) _
          exact Steps.refl _)
        exact ⟨(1 : Int32), (by rw [if_neg hc69]), K167⟩
    have K168 := K164.trans S165
    have K169 : Steps p.tables e below _ (T142.setTop (mkF m 83 #[.val (.int p0), .val (.int p1), .val (.long q2), .second, .val (.long q3), .second, .val (.ref b1), .val (.int v145_0), .val (.int v150_0), .val (.int v155_0), .val (.int v160_0), .val (.int v165_0), .unset] [(.int (p1 &&& (32 : Int32)))])) := K168.trans (by
      show Steps p.tables e below (T142.setTop (mkF m 77 #[.val (.int p0), .val (.int p1), .val (.long q2), .second, .val (.long q3), .second, .val (.ref b1), .val (.int v145_0), .val (.int v150_0), .val (.int v155_0), .val (.int v160_0), .unset, .unset] [(.int v165_0)])) _
      refine XS.istore X142.here hx rfl (hb hby at_77) rfl (l' := #[.val (.int p0), .val (.int p1), .val (.long q2), .second, .val (.long q3), .second, .val (.ref b1), .val (.int v145_0), .val (.int v150_0), .val (.int v155_0), .val (.int v160_0), .val (.int v165_0), .unset]) rfl ?_
      show Steps p.tables e below (T142.setTop (mkF m 79 #[.val (.int p0), .val (.int p1), .val (.long q2), .second, .val (.long q3), .second, .val (.ref b1), .val (.int v145_0), .val (.int v150_0), .val (.int v155_0), .val (.int v160_0), .val (.int v165_0), .unset] [])) _
      refine XS.iloadN X142.here hx rfl (hb hby at_79) rfl ?_
      show Steps p.tables e below (T142.setTop (mkF m 80 #[.val (.int p0), .val (.int p1), .val (.long q2), .second, .val (.long q3), .second, .val (.ref b1), .val (.int v145_0), .val (.int v150_0), .val (.int v155_0), .val (.int v160_0), .val (.int v165_0), .unset] [(.int p1)])) _
      refine XS.bipush X142.here hx rfl (hb hby at_80) ?_
      show Steps p.tables e below (T142.setTop (mkF m 82 #[.val (.int p0), .val (.int p1), .val (.long q2), .second, .val (.long q3), .second, .val (.ref b1), .val (.int v145_0), .val (.int v150_0), .val (.int v155_0), .val (.int v160_0), .val (.int v165_0), .unset] [(.int (32 : Int32)), (.int p1)])) _
      refine XS.iand X142.here hx rfl (hb hby at_82) rfl ?_
      show Steps p.tables e below (T142.setTop (mkF m 83 #[.val (.int p0), .val (.int p1), .val (.long q2), .second, .val (.long q3), .second, .val (.ref b1), .val (.int v145_0), .val (.int v150_0), .val (.int v155_0), .val (.int v160_0), .val (.int v165_0), .unset] [(.int (p1 &&& (32 : Int32)))])) _
      exact Steps.refl _)
    obtain ⟨v170_0, hv170_0, S170⟩ : ∃ (v170_0 : Int32), (if (p1 &&& (32 : Int32)) = (0 : Int32) then (0 : Int32) else (1 : Int32)) = v170_0 ∧ Steps p.tables e below (T142.setTop (mkF m 83 #[.val (.int p0), .val (.int p1), .val (.long q2), .second, .val (.long q3), .second, .val (.ref b1), .val (.int v145_0), .val (.int v150_0), .val (.int v155_0), .val (.int v160_0), .val (.int v165_0), .unset] [(.int (p1 &&& (32 : Int32)))])) (T142.setTop (mkF m 91 #[.val (.int p0), .val (.int p1), .val (.long q2), .second, .val (.long q3), .second, .val (.ref b1), .val (.int v145_0), .val (.int v150_0), .val (.int v155_0), .val (.int v160_0), .val (.int v165_0), .unset] [(.int v170_0)])) := by
      have R170 : Steps p.tables e below (T142.setTop (mkF m 83 #[.val (.int p0), .val (.int p1), .val (.long q2), .second, .val (.long q3), .second, .val (.ref b1), .val (.int v145_0), .val (.int v150_0), .val (.int v155_0), .val (.int v160_0), .val (.int v165_0), .unset] [(.int (p1 &&& (32 : Int32)))])) (T142.setTop (mkF m 83 #[.val (.int p0), .val (.int p1), .val (.long q2), .second, .val (.long q3), .second, .val (.ref b1), .val (.int v145_0), .val (.int v150_0), .val (.int v155_0), .val (.int v160_0), .val (.int v165_0), .unset] [(.int (p1 &&& (32 : Int32)))])) := Steps.refl _
      by_cases hc83 : (p1 &&& (32 : Int32)) = (0 : Int32)
      · have K171 : Steps p.tables e below _ (T142.setTop (mkF m 91 #[.val (.int p0), .val (.int p1), .val (.long q2), .second, .val (.long q3), .second, .val (.ref b1), .val (.int v145_0), .val (.int v150_0), .val (.int v155_0), .val (.int v160_0), .val (.int v165_0), .unset] [(.int (0 : Int32))])) := R170.trans (by
          show Steps p.tables e below (T142.setTop (mkF m 83 #[.val (.int p0), .val (.int p1), .val (.long q2), .second, .val (.long q3), .second, .val (.ref b1), .val (.int v145_0), .val (.int v150_0), .val (.int v155_0), .val (.int v160_0), .val (.int v165_0), .unset] [(.int (p1 &&& (32 : Int32)))])) _
          refine XS.ifYes X142.here hx rfl (pc0 := 83) (pc' := 90) rfl (hb hby at_83) rfl ((if0 _ _).trans (teq hc83).1) (by decide) (by decide) ?_
          show Steps p.tables e below (T142.setTop (mkF m 90 #[.val (.int p0), .val (.int p1), .val (.long q2), .second, .val (.long q3), .second, .val (.ref b1), .val (.int v145_0), .val (.int v150_0), .val (.int v155_0), .val (.int v160_0), .val (.int v165_0), .unset] [])) _
          refine XS.iconst X142.here hx rfl (hb hby at_90) ?_
          show Steps p.tables e below (T142.setTop (mkF m 91 #[.val (.int p0), .val (.int p1), .val (.long q2), .second, .val (.long q3), .second, .val (.ref b1), .val (.int v145_0), .val (.int v150_0), .val (.int v155_0), .val (.int v160_0), .val (.int v165_0), .unset] [(.int (0 : Int32))])) _
          exact Steps.refl _)
        exact ⟨(0 : Int32), (by rw [if_pos hc83]), K171⟩
      · have K172 : Steps p.tables e below _ (T142.setTop (mkF m 91 #[.val (.int p0), .val (.int p1), .val (.long q2), .second, .val (.long q3), .second, .val (.ref b1), .val (.int v145_0), .val (.int v150_0), .val (.int v155_0), .val (.int v160_0), .val (.int v165_0), .unset] [(.int (1 : Int32))])) := R170.trans (by
          show Steps p.tables e below (T142.setTop (mkF m 83 #[.val (.int p0), .val (.int p1), .val (.long q2), .second, .val (.long q3), .second, .val (.ref b1), .val (.int v145_0), .val (.int v150_0), .val (.int v155_0), .val (.int v160_0), .val (.int v165_0), .unset] [(.int (p1 &&& (32 : Int32)))])) _
          refine XS.ifNo X142.here hx rfl (hb hby at_83) rfl ((if0 _ _).trans (feq hc83).1) ?_
          show Steps p.tables e below (T142.setTop (mkF m 86 #[.val (.int p0), .val (.int p1), .val (.long q2), .second, .val (.long q3), .second, .val (.ref b1), .val (.int v145_0), .val (.int v150_0), .val (.int v155_0), .val (.int v160_0), .val (.int v165_0), .unset] [])) _
          refine XS.iconst X142.here hx rfl (hb hby at_86) ?_
          show Steps p.tables e below (T142.setTop (mkF m 87 #[.val (.int p0), .val (.int p1), .val (.long q2), .second, .val (.long q3), .second, .val (.ref b1), .val (.int v145_0), .val (.int v150_0), .val (.int v155_0), .val (.int v160_0), .val (.int v165_0), .unset] [(.int (1 : Int32))])) _
          refine XS.goto X142.here hx rfl (pc0 := 87) (pc' := 91) rfl (hb hby at_87) (by decide) (by decide) ?_
          show Steps p.tables e below (T142.setTop (mkF m 91 #[.val (.int p0), .val (.int p1), .val (.long q2), .second, .val (.long q3), .second, .val (.ref b1), .val (.int v145_0), .val (.int v150_0), .val (.int v155_0), .val (.int v160_0), .val (.int v165_0), .unset] [(.int (1 : Int32))])) _
          exact Steps.refl _)
        exact ⟨(1 : Int32), (by rw [if_neg hc83]), K172⟩
    have K173 := K169.trans S170
    have K174 : Steps p.tables e below _ (T142.setTop (mkF m 102 #[.val (.int p0), .val (.int p1), .val (.long q2), .second, .val (.long q3), .second, .val (.ref b1), .val (.int v145_0), .val (.int v150_0), .val (.int v155_0), .val (.int v160_0), .val (.int v165_0), .val (.int v170_0)] [(.long q3), (.int v150_0), (.long q2), (.int v145_0), (.ref b1)])) := K173.trans (by
      show Steps p.tables e below (T142.setTop (mkF m 91 #[.val (.int p0), .val (.int p1), .val (.long q2), .second, .val (.long q3), .second, .val (.ref b1), .val (.int v145_0), .val (.int v150_0), .val (.int v155_0), .val (.int v160_0), .val (.int v165_0), .unset] [(.int v170_0)])) _
      refine XS.istore X142.here hx rfl (hb hby at_91) rfl (l' := #[.val (.int p0), .val (.int p1), .val (.long q2), .second, .val (.long q3), .second, .val (.ref b1), .val (.int v145_0), .val (.int v150_0), .val (.int v155_0), .val (.int v160_0), .val (.int v165_0), .val (.int v170_0)]) rfl ?_
      show Steps p.tables e below (T142.setTop (mkF m 93 #[.val (.int p0), .val (.int p1), .val (.long q2), .second, .val (.long q3), .second, .val (.ref b1), .val (.int v145_0), .val (.int v150_0), .val (.int v155_0), .val (.int v160_0), .val (.int v165_0), .val (.int v170_0)] [])) _
      refine XS.aload X142.here hx rfl (hb hby at_93) rfl rfl ?_
      show Steps p.tables e below (T142.setTop (mkF m 95 #[.val (.int p0), .val (.int p1), .val (.long q2), .second, .val (.long q3), .second, .val (.ref b1), .val (.int v145_0), .val (.int v150_0), .val (.int v155_0), .val (.int v160_0), .val (.int v165_0), .val (.int v170_0)] [(.ref b1)])) _
      refine XS.iload X142.here hx rfl (hb hby at_95) rfl ?_
      show Steps p.tables e below (T142.setTop (mkF m 97 #[.val (.int p0), .val (.int p1), .val (.long q2), .second, .val (.long q3), .second, .val (.ref b1), .val (.int v145_0), .val (.int v150_0), .val (.int v155_0), .val (.int v160_0), .val (.int v165_0), .val (.int v170_0)] [(.int v145_0), (.ref b1)])) _
      refine XS.lloadN X142.here hx rfl (hb hby at_97) rfl ?_
      show Steps p.tables e below (T142.setTop (mkF m 98 #[.val (.int p0), .val (.int p1), .val (.long q2), .second, .val (.long q3), .second, .val (.ref b1), .val (.int v145_0), .val (.int v150_0), .val (.int v155_0), .val (.int v160_0), .val (.int v165_0), .val (.int v170_0)] [(.long q2), (.int v145_0), (.ref b1)])) _
      refine XS.iload X142.here hx rfl (hb hby at_98) rfl ?_
      show Steps p.tables e below (T142.setTop (mkF m 100 #[.val (.int p0), .val (.int p1), .val (.long q2), .second, .val (.long q3), .second, .val (.ref b1), .val (.int v145_0), .val (.int v150_0), .val (.int v155_0), .val (.int v160_0), .val (.int v165_0), .val (.int v170_0)] [(.int v150_0), (.long q2), (.int v145_0), (.ref b1)])) _
      refine XS.lload X142.here hx rfl (hb hby at_100) rfl ?_
      show Steps p.tables e below (T142.setTop (mkF m 102 #[.val (.int p0), .val (.int p1), .val (.long q2), .second, .val (.long q3), .second, .val (.ref b1), .val (.int v145_0), .val (.int v150_0), .val (.int v155_0), .val (.int v160_0), .val (.int v165_0), .val (.int v170_0)] [(.long q3), (.int v150_0), (.long q2), (.int v145_0), (.ref b1)])) _
      exact Steps.refl _)
    have Z_175 : n0 ≤ T142.heap.size := (Nat.le_trans Z_141 Kp142.1)
    obtain ⟨cq176, kq176, q176a, q176b, q176c⟩ := isOf hZ rfl Q142_0
    obtain ⟨_, _, ⟨T176, L176, k176, n176⟩, -, X176, ⟨Lc176, hQ176, l176, y176, z176⟩, st176⟩ := X142.virtualBack hx (y := (⟨"com/example/spanfold/spanfold/RangeList", "add", "(ZJZJ)V"⟩ : MethodName)) (z := (⟨"com/example/spanfold/spanfold/RangeList", "add", "(ZJZJ)V"⟩ : MethodName)) hown (mvT hZ (hw _ (List.mem_of_getElem? (i := 17) rfl))) (mvT hZ (hw _ (List.mem_of_getElem? (i := 18) rfl))) (notFace_of_selects (args := #[]) (mvT hZ (hw _ (List.mem_of_getElem? (i := 20) rfl)))) (mvT hZ (hw _ (List.mem_of_getElem? (i := 20) rfl))) (mvT hZ (hw _ (List.mem_of_getElem? (i := 19) rfl))) (by decide) (backOf (W := 0) (rm3n l Z a0 hw [] b1 v145_0 q2 v150_0 q3 b142_b5 b142_b12 b142_b23 k5_142 k12_142 k23_142 (2 : Int32) (List.replicate 3 (.long (0 : Int64))) (List.replicate 3 (.long (0 : Int64))) (List.replicate 3 (.int (0 : Int32))) (0 : Int32) 0 T142.heap n0 Z_175 Q142_0 Q142_4 Q142_7 Q142_10 Q142_1 Q142_2 Q142_5 Q142_8 ne_b1_b142_b5 ne_b1_b142_b12 ne_b1_b142_b23 ne142_14 ne142_15 ne142_16 ge_b1 ge_b142_b5 ge_b142_b12 ge_b142_b23 (by decide) (by decide) (rfl) (Nat.le_of_ble_eq_true rfl) (Nat.le_of_ble_eq_true rfl) (Nat.le_of_ble_eq_true rfl)) hZ (hw _ (List.mem_of_getElem? (i := 21) rfl)) (hw _ (List.mem_of_getElem? (i := 2) rfl)) (by decide) (by decide)) q176a q176c (g := (mkF m 102 #[.val (.int p0), .val (.int p1), .val (.long q2), .second, .val (.long q3), .second, .val (.ref b1), .val (.int v145_0), .val (.int v150_0), .val (.int v155_0), .val (.int v160_0), .val (.int v165_0), .val (.int v170_0)] [(.long q3), (.int v150_0), (.long q2), (.int v145_0), (.ref b1)])) rfl (by rw [hml]; rfl) K174 (argsL := [(.int v145_0), (.long q2), (.int v150_0), (.long q3)]) (rest := []) (lenOf pd_5 rfl) rfl (by show 2 * 0 + _ ≤ _; exact Nat.le_of_eq rfl) (hb hby at_102) (fun _ _ => ⟨rfl, rfl, (by decide : 4 + 0 ≤ _), (by decide : 13 + 0 ≤ _)⟩)
    dsimp only [Pt.U, Pt.locs, Pt.cells, Pt.slots] at X176 l176 y176 z176 st176 hQ176
    subst l176 y176 z176
    obtain ⟨rfl, N176, Kp176, Q176_0, Q176_1, Q176_2, Q176_3, Q176_4, Q176_5, Q176_6, Q176_7⟩ := hQ176
    have Q176_4f : Fld Z T176.heap b1 "com/example/spanfold/spanfold/RangeList" "size" "I" (.int (1 : Int32)) := Q176_4
    have N176' := Fr.app N142' N176
    have K177 : Steps p.tables e below _ (T176.setTop (mkF m 105 #[.val (.int p0), .val (.int p1), .val (.long q2), .second, .val (.long q3), .second, .val (.ref b1), .val (.int v145_0), .val (.int v150_0), .val (.int v155_0), .val (.int v160_0), .val (.int v165_0), .val (.int v170_0)] [])) := st176
    have K178 : Steps p.tables e below _ (T176.setTop (mkF m 114 #[.val (.int p0), .val (.int p1), .val (.long q2), .second, .val (.long q3), .second, .val (.ref b1), .val (.int v145_0), .val (.int v150_0), .val (.int v155_0), .val (.int v160_0), .val (.int v165_0), .val (.int v170_0)] [(.long q2), (.int v160_0), (.long q3), (.int v155_0), (.ref b1)])) := K177.trans (by
      show Steps p.tables e below (T176.setTop (mkF m 105 #[.val (.int p0), .val (.int p1), .val (.long q2), .second, .val (.long q3), .second, .val (.ref b1), .val (.int v145_0), .val (.int v150_0), .val (.int v155_0), .val (.int v160_0), .val (.int v165_0), .val (.int v170_0)] [])) _
      refine XS.aload X176.here hx rfl (hb hby at_105) rfl rfl ?_
      show Steps p.tables e below (T176.setTop (mkF m 107 #[.val (.int p0), .val (.int p1), .val (.long q2), .second, .val (.long q3), .second, .val (.ref b1), .val (.int v145_0), .val (.int v150_0), .val (.int v155_0), .val (.int v160_0), .val (.int v165_0), .val (.int v170_0)] [(.ref b1)])) _
      refine XS.iload X176.here hx rfl (hb hby at_107) rfl ?_
      show Steps p.tables e below (T176.setTop (mkF m 109 #[.val (.int p0), .val (.int p1), .val (.long q2), .second, .val (.long q3), .second, .val (.ref b1), .val (.int v145_0), .val (.int v150_0), .val (.int v155_0), .val (.int v160_0), .val (.int v165_0), .val (.int v170_0)] [(.int v155_0), (.ref b1)])) _
      refine XS.lload X176.here hx rfl (hb hby at_109) rfl ?_
      show Steps p.tables e below (T176.setTop (mkF m 111 #[.val (.int p0), .val (.int p1), .val (.long q2), .second, .val (.long q3), .second, .val (.ref b1), .val (.int v145_0), .val (.int v150_0), .val (.int v155_0), .val (.int v160_0), .val (.int v165_0), .val (.int v170_0)] [(.long q3), (.int v155_0), (.ref b1)])) _
      refine XS.iload X176.here hx rfl (hb hby at_111) rfl ?_
      show Steps p.tables e below (T176.setTop (mkF m 113 #[.val (.int p0), .val (.int p1), .val (.long q2), .second, .val (.long q3), .second, .val (.ref b1), .val (.int v145_0), .val (.int v150_0), .val (.int v155_0), .val (.int v160_0), .val (.int v165_0), .val (.int v170_0)] [(.int v160_0), (.long q3), (.int v155_0), (.ref b1)])) _
      refine XS.lloadN X176.here hx rfl (hb hby at_113) rfl ?_
      show Steps p.tables e below (T176.setTop (mkF m 114 #[.val (.int p0), .val (.int p1), .val (.long q2), .second, .val (.long q3), .second, .val (.ref b1), .val (.int v145_0), .val (.int v150_0), .val (.int v155_0), .val (.int v160_0), .val (.int v165_0), .val (.int v170_0)] [(.long q2), (.int v160_0), (.long q3), (.int v155_0), (.ref b1)])) _
      exact Steps.refl _)
    have Z_179 : n0 ≤ T176.heap.size := (Nat.le_trans Z_175 Kp176.1)
    obtain ⟨cq180, kq180, q180a, q180b, q180c⟩ := isOf hZ rfl Q176_0
    obtain ⟨_, _, ⟨T180, L180, k180, n180⟩, -, X180, ⟨Lc180, hQ180, l180, y180, z180⟩, st180⟩ := X176.virtualBack hx (y := (⟨"com/example/spanfold/spanfold/RangeList", "add", "(ZJZJ)V"⟩ : MethodName)) (z := (⟨"com/example/spanfold/spanfold/RangeList", "add", "(ZJZJ)V"⟩ : MethodName)) hown (mvT hZ (hw _ (List.mem_of_getElem? (i := 17) rfl))) (mvT hZ (hw _ (List.mem_of_getElem? (i := 18) rfl))) (notFace_of_selects (args := #[]) (mvT hZ (hw _ (List.mem_of_getElem? (i := 20) rfl)))) (mvT hZ (hw _ (List.mem_of_getElem? (i := 20) rfl))) (mvT hZ (hw _ (List.mem_of_getElem? (i := 19) rfl))) (by decide) (backOf (W := 0) (rm3n l Z a0 hw [] b1 v155_0 q3 v160_0 q2 b142_b5 b142_b12 b142_b23 k5_142 k12_142 k23_142 (2 : Int32) ((List.replicate 3 (.long (0 : Int64))).set 0 (.long (if v145_0 = (0 : Int32) then (0 : Int64) else q2))) ((List.replicate 3 (.long (0 : Int64))).set 0 (.long (if v150_0 = (0 : Int32) then (0 : Int64) else q3))) ((List.replicate 3 (.int (0 : Int32))).set 0 (.int ((((if v145_0 = (0 : Int32) then (0 : Int32) else (1 : Int32)) ||| (if v150_0 = (0 : Int32) then (0 : Int32) else (2 : Int32))).toInt8.toInt32).toInt8.toInt32))) (1 : Int32) 1 T176.heap n0 Z_179 Q176_0 Q176_1 Q176_2 Q176_3 Q176_4f Q176_5 Q176_6 Q176_7 ne_b1_b142_b5 ne_b1_b142_b12 ne_b1_b142_b23 ne142_14 ne142_15 ne142_16 ge_b1 ge_b142_b5 ge_b142_b12 ge_b142_b23 (by decide) (by decide) (rfl) (Nat.le_of_ble_eq_true rfl) (Nat.le_of_ble_eq_true rfl) (Nat.le_of_ble_eq_true rfl)) hZ (hw _ (List.mem_of_getElem? (i := 21) rfl)) (hw _ (List.mem_of_getElem? (i := 2) rfl)) (by decide) (by decide)) q180a q180c (g := (mkF m 114 #[.val (.int p0), .val (.int p1), .val (.long q2), .second, .val (.long q3), .second, .val (.ref b1), .val (.int v145_0), .val (.int v150_0), .val (.int v155_0), .val (.int v160_0), .val (.int v165_0), .val (.int v170_0)] [(.long q2), (.int v160_0), (.long q3), (.int v155_0), (.ref b1)])) rfl (by rw [hml]; rfl) K178 (argsL := [(.int v155_0), (.long q3), (.int v160_0), (.long q2)]) (rest := []) (lenOf pd_5 rfl) rfl (by show 2 * 0 + _ ≤ _; exact Nat.le_of_eq rfl) (hb hby at_114) (fun _ _ => ⟨rfl, rfl, (by decide : 4 + 0 ≤ _), (by decide : 13 + 0 ≤ _)⟩)
    dsimp only [Pt.U, Pt.locs, Pt.cells, Pt.slots] at X180 l180 y180 z180 st180 hQ180
    subst l180 y180 z180
    obtain ⟨rfl, N180, Kp180, Q180_0, Q180_1, Q180_2, Q180_3, Q180_4, Q180_5, Q180_6, Q180_7⟩ := hQ180
    have Q180_4f : Fld Z T180.heap b1 "com/example/spanfold/spanfold/RangeList" "size" "I" (.int (2 : Int32)) := Q180_4
    have N180' := Fr.app N176' N180
    have K181 : Steps p.tables e below _ (T180.setTop (mkF m 117 #[.val (.int p0), .val (.int p1), .val (.long q2), .second, .val (.long q3), .second, .val (.ref b1), .val (.int v145_0), .val (.int v150_0), .val (.int v155_0), .val (.int v160_0), .val (.int v165_0), .val (.int v170_0)] [])) := st180
    have K182 : Steps p.tables e below _ (T180.setTop (mkF m 128 #[.val (.int p0), .val (.int p1), .val (.long q2), .second, .val (.long q3), .second, .val (.ref b1), .val (.int v145_0), .val (.int v150_0), .val (.int v155_0), .val (.int v160_0), .val (.int v165_0), .val (.int v170_0)] [(.long (q3 - q2)), (.int v170_0), (.long q2), (.int v165_0), (.ref b1)])) := K181.trans (by
      show Steps p.tables e below (T180.setTop (mkF m 117 #[.val (.int p0), .val (.int p1), .val (.long q2), .second, .val (.long q3), .second, .val (.ref b1), .val (.int v145_0), .val (.int v150_0), .val (.int v155_0), .val (.int v160_0), .val (.int v165_0), .val (.int v170_0)] [])) _
      refine XS.aload X180.here hx rfl (hb hby at_117) rfl rfl ?_
      show Steps p.tables e below (T180.setTop (mkF m 119 #[.val (.int p0), .val (.int p1), .val (.long q2), .second, .val (.long q3), .second, .val (.ref b1), .val (.int v145_0), .val (.int v150_0), .val (.int v155_0), .val (.int v160_0), .val (.int v165_0), .val (.int v170_0)] [(.ref b1)])) _
      refine XS.iload X180.here hx rfl (hb hby at_119) rfl ?_
      show Steps p.tables e below (T180.setTop (mkF m 121 #[.val (.int p0), .val (.int p1), .val (.long q2), .second, .val (.long q3), .second, .val (.ref b1), .val (.int v145_0), .val (.int v150_0), .val (.int v155_0), .val (.int v160_0), .val (.int v165_0), .val (.int v170_0)] [(.int v165_0), (.ref b1)])) _
      refine XS.lloadN X180.here hx rfl (hb hby at_121) rfl ?_
      show Steps p.tables e below (T180.setTop (mkF m 122 #[.val (.int p0), .val (.int p1), .val (.long q2), .second, .val (.long q3), .second, .val (.ref b1), .val (.int v145_0), .val (.int v150_0), .val (.int v155_0), .val (.int v160_0), .val (.int v165_0), .val (.int v170_0)] [(.long q2), (.int v165_0), (.ref b1)])) _
      refine XS.iload X180.here hx rfl (hb hby at_122) rfl ?_
      show Steps p.tables e below (T180.setTop (mkF m 124 #[.val (.int p0), .val (.int p1), .val (.long q2), .second, .val (.long q3), .second, .val (.ref b1), .val (.int v145_0), .val (.int v150_0), .val (.int v155_0), .val (.int v160_0), .val (.int v165_0), .val (.int v170_0)] [(.int v170_0), (.long q2), (.int v165_0), (.ref b1)])) _
      refine XS.lload X180.here hx rfl (hb hby at_124) rfl ?_
      show Steps p.tables e below (T180.setTop (mkF m 126 #[.val (.int p0), .val (.int p1), .val (.long q2), .second, .val (.long q3), .second, .val (.ref b1), .val (.int v145_0), .val (.int v150_0), .val (.int v155_0), .val (.int v160_0), .val (.int v165_0), .val (.int v170_0)] [(.long q3), (.int v170_0), (.long q2), (.int v165_0), (.ref b1)])) _
      refine XS.lloadN X180.here hx rfl (hb hby at_126) rfl ?_
      show Steps p.tables e below (T180.setTop (mkF m 127 #[.val (.int p0), .val (.int p1), .val (.long q2), .second, .val (.long q3), .second, .val (.ref b1), .val (.int v145_0), .val (.int v150_0), .val (.int v155_0), .val (.int v160_0), .val (.int v165_0), .val (.int v170_0)] [(.long q2), (.long q3), (.int v170_0), (.long q2), (.int v165_0), (.ref b1)])) _
      refine XS.lsub X180.here hx rfl (hb hby at_127) rfl ?_
      show Steps p.tables e below (T180.setTop (mkF m 128 #[.val (.int p0), .val (.int p1), .val (.long q2), .second, .val (.long q3), .second, .val (.ref b1), .val (.int v145_0), .val (.int v150_0), .val (.int v155_0), .val (.int v160_0), .val (.int v165_0), .val (.int v170_0)] [(.long (q3 - q2)), (.int v170_0), (.long q2), (.int v165_0), (.ref b1)])) _
      exact Steps.refl _)
    have Z_183 : n0 ≤ T180.heap.size := (Nat.le_trans Z_179 Kp180.1)
    obtain ⟨cq184, kq184, q184a, q184b, q184c⟩ := isOf hZ rfl Q180_0
    obtain ⟨_, _, ⟨T184, L184, k184, n184⟩, -, X184, ⟨Lc184, hQ184, l184, y184, z184⟩, st184⟩ := X180.virtualBack hx (y := (⟨"com/example/spanfold/spanfold/RangeList", "add", "(ZJZJ)V"⟩ : MethodName)) (z := (⟨"com/example/spanfold/spanfold/RangeList", "add", "(ZJZJ)V"⟩ : MethodName)) hown (mvT hZ (hw _ (List.mem_of_getElem? (i := 17) rfl))) (mvT hZ (hw _ (List.mem_of_getElem? (i := 18) rfl))) (notFace_of_selects (args := #[]) (mvT hZ (hw _ (List.mem_of_getElem? (i := 20) rfl)))) (mvT hZ (hw _ (List.mem_of_getElem? (i := 20) rfl))) (mvT hZ (hw _ (List.mem_of_getElem? (i := 19) rfl))) (by decide) (backOf (W := 0) (rm3g l Z a0 hw [] b1 v165_0 q2 v170_0 (q3 - q2) b142_b5 b142_b12 b142_b23 k5_142 k12_142 k23_142 (2 : Int32) (((List.replicate 3 (.long (0 : Int64))).set 0 (.long (if v145_0 = (0 : Int32) then (0 : Int64) else q2))).set 1 (.long (if v155_0 = (0 : Int32) then (0 : Int64) else q3))) (((List.replicate 3 (.long (0 : Int64))).set 0 (.long (if v150_0 = (0 : Int32) then (0 : Int64) else q3))).set 1 (.long (if v160_0 = (0 : Int32) then (0 : Int64) else q2))) (((List.replicate 3 (.int (0 : Int32))).set 0 (.int ((((if v145_0 = (0 : Int32) then (0 : Int32) else (1 : Int32)) ||| (if v150_0 = (0 : Int32) then (0 : Int32) else (2 : Int32))).toInt8.toInt32).toInt8.toInt32))).set 1 (.int ((((if v155_0 = (0 : Int32) then (0 : Int32) else (1 : Int32)) ||| (if v160_0 = (0 : Int32) then (0 : Int32) else (2 : Int32))).toInt8.toInt32).toInt8.toInt32))) (2 : Int32) 2 T180.heap n0 Z_183 Q180_0 Q180_1 Q180_2 Q180_3 Q180_4f Q180_5 Q180_6 Q180_7 ne_b1_b142_b5 ne_b1_b142_b12 ne_b1_b142_b23 ne142_14 ne142_15 ne142_16 ge_b1 (rfl) (by decide) (by decide) (by decide) (by decide) (rfl) (by decide) (by decide)) hZ (hw _ (List.mem_of_getElem? (i := 21) rfl)) (hw _ (List.mem_of_getElem? (i := 2) rfl)) (by decide) (by decide)) q184a q184c (g := (mkF m 128 #[.val (.int p0), .val (.int p1), .val (.long q2), .second, .val (.long q3), .second, .val (.ref b1), .val (.int v145_0), .val (.int v150_0), .val (.int v155_0), .val (.int v160_0), .val (.int v165_0), .val (.int v170_0)] [(.long (q3 - q2)), (.int v170_0), (.long q2), (.int v165_0), (.ref b1)])) rfl (by rw [hml]; rfl) K182 (argsL := [(.int v165_0), (.long q2), (.int v170_0), (.long (q3 - q2))]) (rest := []) (lenOf pd_5 rfl) rfl (by show 2 * 0 + _ ≤ _; exact Nat.le_of_eq rfl) (hb hby at_128) (fun _ _ => ⟨rfl, rfl, (by decide : 4 + 3 ≤ _), (by decide : 13 + 24 ≤ _)⟩)
    dsimp only [Pt.U, Pt.locs, Pt.cells, Pt.slots] at X184 l184 y184 z184 st184 hQ184
    subst l184 y184 z184
    obtain ⟨b184_b19_b4, b184_b32_b4, b184_b50_b4, k4_19_184, k4_32_184, k4_50_184, rfl, N184, Kp184, Q184_0, Q184_1, Q184_2, Q184_3, Q184_4, Q184_5, Q184_6, Q184_7, Q184_8, Q184_9, Q184_10, sz184_b19_b4, sz184_b32_b4, sz184_b50_b4, ne184_14, ne184_15, ne184_16⟩ := hQ184
    have ne_b1_b184_b19_b4 : b1 ≠ b184_b19_b4 := Nat.ne_of_lt (Nat.lt_of_lt_of_le Q180_0.lt sz184_b19_b4)
    have E_185 : Exa Z T180.heap b142_b5 "[J" := ((Q142_3.keep Kp176).keep Kp180)
    have ne_b142_b5_b184_b19_b4 : b142_b5 ≠ b184_b19_b4 := Nat.ne_of_lt (Nat.lt_of_lt_of_le E_185.lt sz184_b19_b4)
    have E_186 : Exa Z T180.heap b142_b12 "[J" := ((Q142_6.keep Kp176).keep Kp180)
    have ne_b142_b12_b184_b19_b4 : b142_b12 ≠ b184_b19_b4 := Nat.ne_of_lt (Nat.lt_of_lt_of_le E_186.lt sz184_b19_b4)
    have E_187 : Exa Z T180.heap b142_b23 "[B" := ((Q142_9.keep Kp176).keep Kp180)
    have ne_b142_b23_b184_b19_b4 : b142_b23 ≠ b184_b19_b4 := Nat.ne_of_lt (Nat.lt_of_lt_of_le E_187.lt sz184_b19_b4)
    have ge_b184_b19_b4 : n0 ≤ b184_b19_b4 := Nat.le_trans Z_183 sz184_b19_b4
    have ne_b1_b184_b32_b4 : b1 ≠ b184_b32_b4 := Nat.ne_of_lt (Nat.lt_of_lt_of_le Q180_0.lt sz184_b32_b4)
    have ne_b142_b5_b184_b32_b4 : b142_b5 ≠ b184_b32_b4 := Nat.ne_of_lt (Nat.lt_of_lt_of_le E_185.lt sz184_b32_b4)
    have ne_b142_b12_b184_b32_b4 : b142_b12 ≠ b184_b32_b4 := Nat.ne_of_lt (Nat.lt_of_lt_of_le E_186.lt sz184_b32_b4)
    have ne_b142_b23_b184_b32_b4 : b142_b23 ≠ b184_b32_b4 := Nat.ne_of_lt (Nat.lt_of_lt_of_le E_187.lt sz184_b32_b4)
    have ge_b184_b32_b4 : n0 ≤ b184_b32_b4 := Nat.le_trans Z_183 sz184_b32_b4
    have ne_b1_b184_b50_b4 : b1 ≠ b184_b50_b4 := Nat.ne_of_lt (Nat.lt_of_lt_of_le Q180_0.lt sz184_b50_b4)
    have ne_b142_b5_b184_b50_b4 : b142_b5 ≠ b184_b50_b4 := Nat.ne_of_lt (Nat.lt_of_lt_of_le E_185.lt sz184_b50_b4)
    have ne_b142_b12_b184_b50_b4 : b142_b12 ≠ b184_b50_b4 := Nat.ne_of_lt (Nat.lt_of_lt_of_le E_186.lt sz184_b50_b4)
    have ne_b142_b23_b184_b50_b4 : b142_b23 ≠ b184_b50_b4 := Nat.ne_of_lt (Nat.lt_of_lt_of_le E_187.lt sz184_b50_b4)
    have ge_b184_b50_b4 : n0 ≤ b184_b50_b4 := Nat.le_trans Z_183 sz184_b50_b4
    have Q184_4f : Fld Z T184.heap b1 "com/example/spanfold/spanfold/RangeList" "size" "I" (.int (3 : Int32)) := Q184_4
    have N184' := Fr.app N180' N184
    have K188 : Steps p.tables e below _ (T184.setTop (mkF m 131 #[.val (.int p0), .val (.int p1), .val (.long q2), .second, .val (.long q3), .second, .val (.ref b1), .val (.int v145_0), .val (.int v150_0), .val (.int v155_0), .val (.int v160_0), .val (.int v165_0), .val (.int v170_0)] [])) := st184
    have K189 : Steps p.tables e below _ (T184.setTop (mkF m 134 #[.val (.int p0), .val (.int p1), .val (.long q2), .second, .val (.long q3), .second, .val (.ref b1), .val (.int v145_0), .val (.int v150_0), .val (.int v155_0), .val (.int v160_0), .val (.int v165_0), .val (.int v170_0)] [(.int (0 : Int32)), (.ref b1)])) := K188.trans (by
      show Steps p.tables e below (T184.setTop (mkF m 131 #[.val (.int p0), .val (.int p1), .val (.long q2), .second, .val (.long q3), .second, .val (.ref b1), .val (.int v145_0), .val (.int v150_0), .val (.int v155_0), .val (.int v160_0), .val (.int v165_0), .val (.int v170_0)] [])) _
      refine XS.aload X184.here hx rfl (hb hby at_131) rfl rfl ?_
      show Steps p.tables e below (T184.setTop (mkF m 133 #[.val (.int p0), .val (.int p1), .val (.long q2), .second, .val (.long q3), .second, .val (.ref b1), .val (.int v145_0), .val (.int v150_0), .val (.int v155_0), .val (.int v160_0), .val (.int v165_0), .val (.int v170_0)] [(.ref b1)])) _
      refine XS.iconst X184.here hx rfl (hb hby at_133) ?_
      show Steps p.tables e below (T184.setTop (mkF m 134 #[.val (.int p0), .val (.int p1), .val (.long q2), .second, .val (.long q3), .second, .val (.ref b1), .val (.int v145_0), .val (.int v150_0), .val (.int v155_0), .val (.int v160_0), .val (.int v165_0), .val (.int v170_0)] [(.int (0 : Int32)), (.ref b1)])) _
      exact Steps.refl _)
    have Z_190 : n0 ≤ T184.heap.size := (Nat.le_trans Z_183 Kp184.1)
    obtain ⟨cq191, kq191, q191a, q191b, q191c⟩ := isOf hZ rfl Q184_0
    obtain ⟨_, _, ⟨T191, L191, k191, n191⟩, -, X191, ⟨Lc191, hQ191, l191, y191, z191⟩, st191⟩ := X184.virtualBack hx (y := (⟨"com/example/spanfold/spanfold/RangeList", "hasTo", "(I)Z"⟩ : MethodName)) (z := (⟨"com/example/spanfold/spanfold/RangeList", "hasTo", "(I)Z"⟩ : MethodName)) hown (mvT hZ (hw _ (List.mem_of_getElem? (i := 42) rfl))) (mvT hZ (hw _ (List.mem_of_getElem? (i := 43) rfl))) (notFace_of_selects (args := #[]) (mvT hZ (hw _ (List.mem_of_getElem? (i := 45) rfl)))) (mvT hZ (hw _ (List.mem_of_getElem? (i := 45) rfl))) (mvT hZ (hw _ (List.mem_of_getElem? (i := 44) rfl))) (by decide) (backOf (W := 0) (rm8 l Z a0 hw [] b1 (0 : Int32) b184_b50_b4 k4_50_184 (8 : Int32) ((own_cp 8 (2 : Int32).toNatClampNeg (((List.replicate 3 (.int (0 : Int32))).set 0 (.int ((((if v145_0 = (0 : Int32) then (0 : Int32) else (1 : Int32)) ||| (if v150_0 = (0 : Int32) then (0 : Int32) else (2 : Int32))).toInt8.toInt32).toInt8.toInt32))).set 1 (.int ((((if v155_0 = (0 : Int32) then (0 : Int32) else (1 : Int32)) ||| (if v160_0 = (0 : Int32) then (0 : Int32) else (2 : Int32))).toInt8.toInt32).toInt8.toInt32))) (.int (0 : Int32))).set 2 (.int ((((if v165_0 = (0 : Int32) then (0 : Int32) else (1 : Int32)) ||| (if v170_0 = (0 : Int32) then (0 : Int32) else (2 : Int32))).toInt8.toInt32).toInt8.toInt32))) ((((if v145_0 = (0 : Int32) then (0 : Int32) else (1 : Int32)) ||| (if v150_0 = (0 : Int32) then (0 : Int32) else (2 : Int32))).toInt8.toInt32).toInt8.toInt32) (3 : Int32) T184.heap n0 Z_190 Q184_3 Q184_4f Q184_10 (by decide) (by decide) (by decide) (rfl)) hZ (hw _ (List.mem_of_getElem? (i := 46) rfl)) (hw _ (List.mem_of_getElem? (i := 2) rfl)) (by decide) (by decide)) q191a q191c (g := (mkF m 134 #[.val (.int p0), .val (.int p1), .val (.long q2), .second, .val (.long q3), .second, .val (.ref b1), .val (.int v145_0), .val (.int v150_0), .val (.int v155_0), .val (.int v160_0), .val (.int v165_0), .val (.int v170_0)] [(.int (0 : Int32)), (.ref b1)])) rfl (by rw [hml]; rfl) K189 (argsL := [(.int (0 : Int32))]) (rest := []) (lenOf pd_6 rfl) rfl (by show 2 * 0 + _ ≤ _; exact Nat.le_of_eq rfl) (hb hby at_134) (fun _ _ => ⟨rfl, rfl, (by decide : 7 + 0 ≤ _), (by decide : 37 + 0 ≤ _)⟩)
    dsimp only [Pt.U, Pt.locs, Pt.cells, Pt.slots] at X191 l191 y191 z191 st191 hQ191
    subst l191 y191 z191
    obtain ⟨rfl, N191, eh191⟩ := hQ191
    have N191' := Fr.app N184' N191
    have K193 : Steps p.tables e below _ (T191.setTop (mkF m 137 #[.val (.int p0), .val (.int p1), .val (.long q2), .second, .val (.long q3), .second, .val (.ref b1), .val (.int v145_0), .val (.int v150_0), .val (.int v155_0), .val (.int v160_0), .val (.int v165_0), .val (.int v170_0)] [(.int ((if (((((if v145_0 = (0 : Int32) then (0 : Int32) else (1 : Int32)) ||| (if v150_0 = (0 : Int32) then (0 : Int32) else (2 : Int32))).toInt8.toInt32).toInt8.toInt32) &&& (2 : Int32)) = (0 : Int32) then (0 : Int32) else (1 : Int32)) &&& 1))])) := st191
    obtain ⟨r192, hr192⟩ : ∃ z : Int32, ((if (((((if v145_0 = (0 : Int32) then (0 : Int32) else (1 : Int32)) ||| (if v150_0 = (0 : Int32) then (0 : Int32) else (2 : Int32))).toInt8.toInt32).toInt8.toInt32) &&& (2 : Int32)) = (0 : Int32) then (0 : Int32) else (1 : Int32)) &&& 1) = z := ⟨_, rfl⟩
    rw [hr192] at K193
    have K194 : Steps p.tables e below _ (T191.setTop (mkF m 139 #[.val (.int p0), .val (.int p1), .val (.long q2), .second, .val (.long q3), .second, .val (.ref b1), .val (.int v145_0), .val (.int v150_0), .val (.int v155_0), .val (.int v160_0), .val (.int v165_0), .val (.int v170_0)] [(.int v150_0), (.int r192)])) := K193.trans (by
      show Steps p.tables e below (T191.setTop (mkF m 137 #[.val (.int p0), .val (.int p1), .val (.long q2), .second, .val (.long q3), .second, .val (.ref b1), .val (.int v145_0), .val (.int v150_0), .val (.int v155_0), .val (.int v160_0), .val (.int v165_0), .val (.int v170_0)] [(.int r192)])) _
      refine XS.iload X191.here hx rfl (hb hby at_137) rfl ?_
      show Steps p.tables e below (T191.setTop (mkF m 139 #[.val (.int p0), .val (.int p1), .val (.long q2), .second, .val (.long q3), .second, .val (.ref b1), .val (.int v145_0), .val (.int v150_0), .val (.int v155_0), .val (.int v160_0), .val (.int v165_0), .val (.int v170_0)] [(.int v150_0), (.int r192)])) _
      exact Steps.refl _)
    obtain ⟨T195, L195, v195_0, X195, e195, N195, hv195_0, S195⟩ : ∃ (T195 : State) (L195 : List Loc) (v195_0 : Int32), Stand p l e room_1 s m #[(.int p0), (.int p1), (.long q2), (.long q3)] below meth c T195 L195 7 37 ∧ T195.heap = T184.heap ∧ Fr n0 L195 ∧ (if r192 = v150_0 then (if ((if (((((if v155_0 = (0 : Int32) then (0 : Int32) else (1 : Int32)) ||| (if v160_0 = (0 : Int32) then (0 : Int32) else (2 : Int32))).toInt8.toInt32).toInt8.toInt32) &&& (2 : Int32)) = (0 : Int32) then (0 : Int32) else (1 : Int32)) &&& 1) = v160_0 then (if ((if (((((if v165_0 = (0 : Int32) then (0 : Int32) else (1 : Int32)) ||| (if v170_0 = (0 : Int32) then (0 : Int32) else (2 : Int32))).toInt8.toInt32).toInt8.toInt32) &&& (2 : Int32)) = (0 : Int32) then (0 : Int32) else (1 : Int32)) &&& 1) = v170_0 then (1 : Int32) else (0 : Int32)) else (0 : Int32)) else (0 : Int32)) = v195_0 ∧ Steps p.tables e below (T191.setTop (mkF m 139 #[.val (.int p0), .val (.int p1), .val (.long q2), .second, .val (.long q3), .second, .val (.ref b1), .val (.int v145_0), .val (.int v150_0), .val (.int v155_0), .val (.int v160_0), .val (.int v165_0), .val (.int v170_0)] [(.int v150_0), (.int r192)])) (T195.setTop (mkF m 169 #[.val (.int p0), .val (.int p1), .val (.long q2), .second, .val (.long q3), .second, .val (.ref b1), .val (.int v145_0), .val (.int v150_0), .val (.int v155_0), .val (.int v160_0), .val (.int v165_0), .val (.int v170_0)] [(.int v195_0)])) := by
      have R195 : Steps p.tables e below (T191.setTop (mkF m 139 #[.val (.int p0), .val (.int p1), .val (.long q2), .second, .val (.long q3), .second, .val (.ref b1), .val (.int v145_0), .val (.int v150_0), .val (.int v155_0), .val (.int v160_0), .val (.int v165_0), .val (.int v170_0)] [(.int v150_0), (.int r192)])) (T191.setTop (mkF m 139 #[.val (.int p0), .val (.int p1), .val (.long q2), .second, .val (.long q3), .second, .val (.ref b1), .val (.int v145_0), .val (.int v150_0), .val (.int v155_0), .val (.int v160_0), .val (.int v165_0), .val (.int v170_0)] [(.int v150_0), (.int r192)])) := Steps.refl _
      by_cases hc139 : r192 = v150_0
      · have K196 : Steps p.tables e below _ (T191.setTop (mkF m 145 #[.val (.int p0), .val (.int p1), .val (.long q2), .second, .val (.long q3), .second, .val (.ref b1), .val (.int v145_0), .val (.int v150_0), .val (.int v155_0), .val (.int v160_0), .val (.int v165_0), .val (.int v170_0)] [(.int (1 : Int32)), (.ref b1)])) := R195.trans (by
          show Steps p.tables e below (T191.setTop (mkF m 139 #[.val (.int p0), .val (.int p1), .val (.long q2), .second, .val (.long q3), .second, .val (.ref b1), .val (.int v145_0), .val (.int v150_0), .val (.int v155_0), .val (.int v160_0), .val (.int v165_0), .val (.int v170_0)] [(.int v150_0), (.int r192)])) _
          refine XS.icmpNo X191.here hx rfl (hb hby at_139) rfl (teq hc139).2 ?_
          show Steps p.tables e below (T191.setTop (mkF m 142 #[.val (.int p0), .val (.int p1), .val (.long q2), .second, .val (.long q3), .second, .val (.ref b1), .val (.int v145_0), .val (.int v150_0), .val (.int v155_0), .val (.int v160_0), .val (.int v165_0), .val (.int v170_0)] [])) _
          refine XS.aload X191.here hx rfl (hb hby at_142) rfl rfl ?_
          show Steps p.tables e below (T191.setTop (mkF m 144 #[.val (.int p0), .val (.int p1), .val (.long q2), .second, .val (.long q3), .second, .val (.ref b1), .val (.int v145_0), .val (.int v150_0), .val (.int v155_0), .val (.int v160_0), .val (.int v165_0), .val (.int v170_0)] [(.ref b1)])) _
          refine XS.iconst X191.here hx rfl (hb hby at_144) ?_
          show Steps p.tables e below (T191.setTop (mkF m 145 #[.val (.int p0), .val (.int p1), .val (.long q2), .second, .val (.long q3), .second, .val (.ref b1), .val (.int v145_0), .val (.int v150_0), .val (.int v155_0), .val (.int v160_0), .val (.int v165_0), .val (.int v170_0)] [(.int (1 : Int32)), (.ref b1)])) _
          exact Steps.refl _)
        obtain ⟨cq197, kq197, q197a, q197b, q197c⟩ := isOf hZ eh191 Q184_0
        obtain ⟨_, _, ⟨T197, L197, k197, n197⟩, -, X197, ⟨Lc197, hQ197, l197, y197, z197⟩, st197⟩ := X191.virtualBack hx (y := (⟨"com/example/spanfold/spanfold/RangeList", "hasTo", "(I)Z"⟩ : MethodName)) (z := (⟨"com/example/spanfold/spanfold/RangeList", "hasTo", "(I)Z"⟩ : MethodName)) hown (mvT hZ (hw _ (List.mem_of_getElem? (i := 42) rfl))) (mvT hZ (hw _ (List.mem_of_getElem? (i := 43) rfl))) (notFace_of_selects (args := #[]) (mvT hZ (hw _ (List.mem_of_getElem? (i := 45) rfl)))) (mvT hZ (hw _ (List.mem_of_getElem? (i := 45) rfl))) (mvT hZ (hw _ (List.mem_of_getElem? (i := 44) rfl))) (by decide) (backOf (W := 0) (rm8 l Z a0 hw [] b1 (1 : Int32) b184_b50_b4 k4_50_184 (8 : Int32) ((own_cp 8 (2 : Int32).toNatClampNeg (((List.replicate 3 (.int (0 : Int32))).set 0 (.int ((((if v145_0 = (0 : Int32) then (0 : Int32) else (1 : Int32)) ||| (if v150_0 = (0 : Int32) then (0 : Int32) else (2 : Int32))).toInt8.toInt32).toInt8.toInt32))).set 1 (.int ((((if v155_0 = (0 : Int32) then (0 : Int32) else (1 : Int32)) ||| (if v160_0 = (0 : Int32) then (0 : Int32) else (2 : Int32))).toInt8.toInt32).toInt8.toInt32))) (.int (0 : Int32))).set 2 (.int ((((if v165_0 = (0 : Int32) then (0 : Int32) else (1 : Int32)) ||| (if v170_0 = (0 : Int32) then (0 : Int32) else (2 : Int32))).toInt8.toInt32).toInt8.toInt32))) ((((if v155_0 = (0 : Int32) then (0 : Int32) else (1 : Int32)) ||| (if v160_0 = (0 : Int32) then (0 : Int32) else (2 : Int32))).toInt8.toInt32).toInt8.toInt32) (3 : Int32) T184.heap n0 Z_190 Q184_3 Q184_4f Q184_10 (by decide) (by decide) (by decide) (rfl)) hZ (hw _ (List.mem_of_getElem? (i := 46) rfl)) (hw _ (List.mem_of_getElem? (i := 2) rfl)) (by decide) (by decide)) q197a q197c (g := (mkF m 145 #[.val (.int p0), .val (.int p1), .val (.long q2), .second, .val (.long q3), .second, .val (.ref b1), .val (.int v145_0), .val (.int v150_0), .val (.int v155_0), .val (.int v160_0), .val (.int v165_0), .val (.int v170_0)] [(.int (1 : Int32)), (.ref b1)])) rfl (by rw [hml]; rfl) K196 (argsL := [(.int (1 : Int32))]) (rest := []) (lenOf pd_6 rfl) rfl (by show 2 * 0 + _ ≤ _; exact Nat.le_of_eq rfl) (hb hby at_145) (fun _ _ => ⟨rfl, eh191, (by decide : 7 + 0 ≤ _), (by decide : 37 + 0 ≤ _)⟩)
        dsimp only [Pt.U, Pt.locs, Pt.cells, Pt.slots] at X197 l197 y197 z197 st197 hQ197
        subst l197 y197 z197
        obtain ⟨rfl, N197, eh197⟩ := hQ197
        have N197' := Fr.app N191' N197
        have K199 : Steps p.tables e below _ (T197.setTop (mkF m 148 #[.val (.int p0), .val (.int p1), .val (.long q2), .second, .val (.long q3), .second, .val (.ref b1), .val (.int v145_0), .val (.int v150_0), .val (.int v155_0), .val (.int v160_0), .val (.int v165_0), .val (.int v170_0)] [(.int ((if (((((if v155_0 = (0 : Int32) then (0 : Int32) else (1 : Int32)) ||| (if v160_0 = (0 : Int32) then (0 : Int32) else (2 : Int32))).toInt8.toInt32).toInt8.toInt32) &&& (2 : Int32)) = (0 : Int32) then (0 : Int32) else (1 : Int32)) &&& 1))])) := st197
        obtain ⟨r198, hr198⟩ : ∃ z : Int32, ((if (((((if v155_0 = (0 : Int32) then (0 : Int32) else (1 : Int32)) ||| (if v160_0 = (0 : Int32) then (0 : Int32) else (2 : Int32))).toInt8.toInt32).toInt8.toInt32) &&& (2 : Int32)) = (0 : Int32) then (0 : Int32) else (1 : Int32)) &&& 1) = z := ⟨_, rfl⟩
        rw [hr198] at K199
        have K200 : Steps p.tables e below _ (T197.setTop (mkF m 150 #[.val (.int p0), .val (.int p1), .val (.long q2), .second, .val (.long q3), .second, .val (.ref b1), .val (.int v145_0), .val (.int v150_0), .val (.int v155_0), .val (.int v160_0), .val (.int v165_0), .val (.int v170_0)] [(.int v160_0), (.int r198)])) := K199.trans (by
          show Steps p.tables e below (T197.setTop (mkF m 148 #[.val (.int p0), .val (.int p1), .val (.long q2), .second, .val (.long q3), .second, .val (.ref b1), .val (.int v145_0), .val (.int v150_0), .val (.int v155_0), .val (.int v160_0), .val (.int v165_0), .val (.int v170_0)] [(.int r198)])) _
          refine XS.iload X197.here hx rfl (hb hby at_148) rfl ?_
          show Steps p.tables e below (T197.setTop (mkF m 150 #[.val (.int p0), .val (.int p1), .val (.long q2), .second, .val (.long q3), .second, .val (.ref b1), .val (.int v145_0), .val (.int v150_0), .val (.int v155_0), .val (.int v160_0), .val (.int v165_0), .val (.int v170_0)] [(.int v160_0), (.int r198)])) _
          exact Steps.refl _)
        by_cases hc150 : r198 = v160_0
        · have K201 : Steps p.tables e below _ (T197.setTop (mkF m 156 #[.val (.int p0), .val (.int p1), .val (.long q2), .second, .val (.long q3), .second, .val (.ref b1), .val (.int v145_0), .val (.int v150_0), .val (.int v155_0), .val (.int v160_0), .val (.int v165_0), .val (.int v170_0)] [(.int (2 : Int32)), (.ref b1)])) := K200.trans (by
            show Steps p.tables e below (T197.setTop (mkF m 150 #[.val (.int p0), .val (.int p1), .val (.long q2), .second, .val (.long q3), .second, .val (.ref b1), .val (.int v145_0), .val (.int v150_0), .val (.int v155_0), .val (.int v160_0), .val (.int v165_0), .val (.int v170_0)] [(.int v160_0), (.int r198)])) _
            refine XS.icmpNo X197.here hx rfl (hb hby at_150) rfl (teq hc150).2 ?_
            show Steps p.tables e below (T197.setTop (mkF m 153 #[.val (.int p0), .val (.int p1), .val (.long q2), .second, .val (.long q3), .second, .val (.ref b1), .val (.int v145_0), .val (.int v150_0), .val (.int v155_0), .val (.int v160_0), .val (.int v165_0), .val (.int v170_0)] [])) _
            refine XS.aload X197.here hx rfl (hb hby at_153) rfl rfl ?_
            show Steps p.tables e below (T197.setTop (mkF m 155 #[.val (.int p0), .val (.int p1), .val (.long q2), .second, .val (.long q3), .second, .val (.ref b1), .val (.int v145_0), .val (.int v150_0), .val (.int v155_0), .val (.int v160_0), .val (.int v165_0), .val (.int v170_0)] [(.ref b1)])) _
            refine XS.iconst X197.here hx rfl (hb hby at_155) ?_
            show Steps p.tables e below (T197.setTop (mkF m 156 #[.val (.int p0), .val (.int p1), .val (.long q2), .second, .val (.long q3), .second, .val (.ref b1), .val (.int v145_0), .val (.int v150_0), .val (.int v155_0), .val (.int v160_0), .val (.int v165_0), .val (.int v170_0)] [(.int (2 : Int32)), (.ref b1)])) _
            exact Steps.refl _)
          obtain ⟨cq202, kq202, q202a, q202b, q202c⟩ := isOf hZ eh197 Q184_0
          obtain ⟨_, _, ⟨T202, L202, k202, n202⟩, -, X202, ⟨Lc202, hQ202, l202, y202, z202⟩, st202⟩ := X197.virtualBack hx (y := (⟨"com/example/spanfold/spanfold/RangeList", "hasTo", "(I)Z"⟩ : MethodName)) (z := (⟨"com/example/spanfold/spanfold/RangeList", "hasTo", "(I)Z"⟩ : MethodName)) hown (mvT hZ (hw _ (List.mem_of_getElem? (i := 42) rfl))) (mvT hZ (hw _ (List.mem_of_getElem? (i := 43) rfl))) (notFace_of_selects (args := #[]) (mvT hZ (hw _ (List.mem_of_getElem? (i := 45) rfl)))) (mvT hZ (hw _ (List.mem_of_getElem? (i := 45) rfl))) (mvT hZ (hw _ (List.mem_of_getElem? (i := 44) rfl))) (by decide) (backOf (W := 0) (rm8 l Z a0 hw [] b1 (2 : Int32) b184_b50_b4 k4_50_184 (8 : Int32) ((own_cp 8 (2 : Int32).toNatClampNeg (((List.replicate 3 (.int (0 : Int32))).set 0 (.int ((((if v145_0 = (0 : Int32) then (0 : Int32) else (1 : Int32)) ||| (if v150_0 = (0 : Int32) then (0 : Int32) else (2 : Int32))).toInt8.toInt32).toInt8.toInt32))).set 1 (.int ((((if v155_0 = (0 : Int32) then (0 : Int32) else (1 : Int32)) ||| (if v160_0 = (0 : Int32) then (0 : Int32) else (2 : Int32))).toInt8.toInt32).toInt8.toInt32))) (.int (0 : Int32))).set 2 (.int ((((if v165_0 = (0 : Int32) then (0 : Int32) else (1 : Int32)) ||| (if v170_0 = (0 : Int32) then (0 : Int32) else (2 : Int32))).toInt8.toInt32).toInt8.toInt32))) ((((if v165_0 = (0 : Int32) then (0 : Int32) else (1 : Int32)) ||| (if v170_0 = (0 : Int32) then (0 : Int32) else (2 : Int32))).toInt8.toInt32).toInt8.toInt32) (3 : Int32) T184.heap n0 Z_190 Q184_3 Q184_4f Q184_10 (by decide) (by decide) (by decide) (rfl)) hZ (hw _ (List.mem_of_getElem? (i := 46) rfl)) (hw _ (List.mem_of_getElem? (i := 2) rfl)) (by decide) (by decide)) q202a q202c (g := (mkF m 156 #[.val (.int p0), .val (.int p1), .val (.long q2), .second, .val (.long q3), .second, .val (.ref b1), .val (.int v145_0), .val (.int v150_0), .val (.int v155_0), .val (.int v160_0), .val (.int v165_0), .val (.int v170_0)] [(.int (2 : Int32)), (.ref b1)])) rfl (by rw [hml]; rfl) K201 (argsL := [(.int (2 : Int32))]) (rest := []) (lenOf pd_6 rfl) rfl (by show 2 * 0 + _ ≤ _; exact Nat.le_of_eq rfl) (hb hby at_156) (fun _ _ => ⟨rfl, eh197, (by decide : 7 + 0 ≤ _), (by decide : 37 + 0 ≤ _)⟩)
          dsimp only [Pt.U, Pt.locs, Pt.cells, Pt.slots] at X202 l202 y202 z202 st202 hQ202
          subst l202 y202 z202
          obtain ⟨rfl, N202, eh202⟩ := hQ202
          have N202' := Fr.app N197' N202
          have K204 : Steps p.tables e below _ (T202.setTop (mkF m 159 #[.val (.int p0), .val (.int p1), .val (.long q2), .second, .val (.long q3), .second, .val (.ref b1), .val (.int v145_0), .val (.int v150_0), .val (.int v155_0), .val (.int v160_0), .val (.int v165_0), .val (.int v170_0)] [(.int ((if (((((if v165_0 = (0 : Int32) then (0 : Int32) else (1 : Int32)) ||| (if v170_0 = (0 : Int32) then (0 : Int32) else (2 : Int32))).toInt8.toInt32).toInt8.toInt32) &&& (2 : Int32)) = (0 : Int32) then (0 : Int32) else (1 : Int32)) &&& 1))])) := st202
          obtain ⟨r203, hr203⟩ : ∃ z : Int32, ((if (((((if v165_0 = (0 : Int32) then (0 : Int32) else (1 : Int32)) ||| (if v170_0 = (0 : Int32) then (0 : Int32) else (2 : Int32))).toInt8.toInt32).toInt8.toInt32) &&& (2 : Int32)) = (0 : Int32) then (0 : Int32) else (1 : Int32)) &&& 1) = z := ⟨_, rfl⟩
          rw [hr203] at K204
          have K205 : Steps p.tables e below _ (T202.setTop (mkF m 161 #[.val (.int p0), .val (.int p1), .val (.long q2), .second, .val (.long q3), .second, .val (.ref b1), .val (.int v145_0), .val (.int v150_0), .val (.int v155_0), .val (.int v160_0), .val (.int v165_0), .val (.int v170_0)] [(.int v170_0), (.int r203)])) := K204.trans (by
            show Steps p.tables e below (T202.setTop (mkF m 159 #[.val (.int p0), .val (.int p1), .val (.long q2), .second, .val (.long q3), .second, .val (.ref b1), .val (.int v145_0), .val (.int v150_0), .val (.int v155_0), .val (.int v160_0), .val (.int v165_0), .val (.int v170_0)] [(.int r203)])) _
            refine XS.iload X202.here hx rfl (hb hby at_159) rfl ?_
            show Steps p.tables e below (T202.setTop (mkF m 161 #[.val (.int p0), .val (.int p1), .val (.long q2), .second, .val (.long q3), .second, .val (.ref b1), .val (.int v145_0), .val (.int v150_0), .val (.int v155_0), .val (.int v160_0), .val (.int v165_0), .val (.int v170_0)] [(.int v170_0), (.int r203)])) _
            exact Steps.refl _)
          by_cases hc161 : r203 = v170_0
          · have K206 : Steps p.tables e below _ (T202.setTop (mkF m 169 #[.val (.int p0), .val (.int p1), .val (.long q2), .second, .val (.long q3), .second, .val (.ref b1), .val (.int v145_0), .val (.int v150_0), .val (.int v155_0), .val (.int v160_0), .val (.int v165_0), .val (.int v170_0)] [(.int (1 : Int32))])) := K205.trans (by
              show Steps p.tables e below (T202.setTop (mkF m 161 #[.val (.int p0), .val (.int p1), .val (.long q2), .second, .val (.long q3), .second, .val (.ref b1), .val (.int v145_0), .val (.int v150_0), .val (.int v155_0), .val (.int v160_0), .val (.int v165_0), .val (.int v170_0)] [(.int v170_0), (.int r203)])) _
              refine XS.icmpNo X202.here hx rfl (hb hby at_161) rfl (teq hc161).2 ?_
              show Steps p.tables e below (T202.setTop (mkF m 164 #[.val (.int p0), .val (.int p1), .val (.long q2), .second, .val (.long q3), .second, .val (.ref b1), .val (.int v145_0), .val (.int v150_0), .val (.int v155_0), .val (.int v160_0), .val (.int v165_0), .val (.int v170_0)] [])) _
              refine XS.iconst X202.here hx rfl (hb hby at_164) ?_
              show Steps p.tables e below (T202.setTop (mkF m 165 #[.val (.int p0), .val (.int p1), .val (.long q2), .second, .val (.long q3), .second, .val (.ref b1), .val (.int v145_0), .val (.int v150_0), .val (.int v155_0), .val (.int v160_0), .val (.int v165_0), .val (.int v170_0)] [(.int (1 : Int32))])) _
              refine XS.goto X202.here hx rfl (pc0 := 165) (pc' := 169) rfl (hb hby at_165) (by decide) (by decide) ?_
              show Steps p.tables e below (T202.setTop (mkF m 169 #[.val (.int p0), .val (.int p1), .val (.long q2), .second, .val (.long q3), .second, .val (.ref b1), .val (.int v145_0), .val (.int v150_0), .val (.int v155_0), .val (.int v160_0), .val (.int v165_0), .val (.int v170_0)] [(.int (1 : Int32))])) _
              exact Steps.refl _)
            subst hr203
            subst hr198
            exact ⟨T202, _, (1 : Int32), X202, eh202, N202', (by rw [if_pos hc139, if_pos hc150, if_pos hc161]), K206⟩
          · have K207 : Steps p.tables e below _ (T202.setTop (mkF m 169 #[.val (.int p0), .val (.int p1), .val (.long q2), .second, .val (.long q3), .second, .val (.ref b1), .val (.int v145_0), .val (.int v150_0), .val (.int v155_0), .val (.int v160_0), .val (.int v165_0), .val (.int v170_0)] [(.int (0 : Int32))])) := K205.trans (by
              show Steps p.tables e below (T202.setTop (mkF m 161 #[.val (.int p0), .val (.int p1), .val (.long q2), .second, .val (.long q3), .second, .val (.ref b1), .val (.int v145_0), .val (.int v150_0), .val (.int v155_0), .val (.int v160_0), .val (.int v165_0), .val (.int v170_0)] [(.int v170_0), (.int r203)])) _
              refine XS.icmpYes X202.here hx rfl (pc0 := 161) (pc' := 168) rfl (hb hby at_161) rfl (feq hc161).2 (by decide) (by decide) ?_
              show Steps p.tables e below (T202.setTop (mkF m 168 #[.val (.int p0), .val (.int p1), .val (.long q2), .second, .val (.long q3), .second, .val (.ref b1), .val (.int v145_0), .val (.int v150_0), .val (.int v155_0), .val (.int v160_0), .val (.int v165_0), .val (.int v170_0)] [])) _
              refine XS.iconst X202.here hx rfl (hb hby at_168) ?_
              show Steps p.tables e below (T202.setTop (mkF m 169 #[.val (.int p0), .val (.int p1), .val (.long q2), .second, .val (.long q3), .second, .val (.ref b1), .val (.int v145_0), .val (.int v150_0), .val (.int v155_0), .val (.int v160_0), .val (.int v165_0), .val (.int v170_0)] [(.int (0 : Int32))])) _
              exact Steps.refl _)
            subst hr203
            subst hr198
            exact ⟨T202, _, (0 : Int32), X202, eh202, N202', (by rw [if_pos hc139, if_pos hc150, if_neg hc161]), K207⟩
        · have K208 : Steps p.tables e below _ (T197.setTop (mkF m 169 #[.val (.int p0), .val (.int p1), .val (.long q2), .second, .val (.long q3), .second, .val (.ref b1), .val (.int v145_0), .val (.int v150_0), .val (.int v155_0), .val (.int v160_0), .val (.int v165_0), .val (.int v170_0)] [(.int (0 : Int32))])) := K200.trans (by
            show Steps p.tables e below (T197.setTop (mkF m 150 #[.val (.int p0), .val (.int p1), .val (.long q2), .second, .val (.long q3), .second, .val (.ref b1), .val (.int v145_0), .val (.int v150_0), .val (.int v155_0), .val (.int v160_0), .val (.int v165_0), .val (.int v170_0)] [(.int v160_0), (.int r198)])) _
            refine XS.icmpYes X197.here hx rfl (pc0 := 150) (pc' := 168) rfl (hb hby at_150) rfl (feq hc150).2 (by decide) (by decide) ?_
            show Steps p.tables e below (T197.setTop (mkF m 168 #[.val (.int p0), .val (.int p1), .val (.long q2), .second, .val (.long q3), .second, .val (.ref b1), .val (.int v145_0), .val (.int v150_0), .val (.int v155_0), .val (.int v160_0), .val (.int v165_0), .val (.int v170_0)] [])) _
            refine XS.iconst X197.here hx rfl (hb hby at_168) ?_
            show Steps p.tables e below (T197.setTop (mkF m 169 #[.val (.int p0), .val (.int p1), .val (.long q2), .second, .val (.long q3), .second, .val (.ref b1), .val (.int v145_0), .val (.int v150_0), .val (.int v155_0), .val (.int v160_0), .val (.int v165_0), .val (.int v170_0)] [(.int (0 : Int32))])) _
            exact Steps.refl _)
          subst hr198
          exact ⟨T197, _, (0 : Int32), X197, eh197, N197', (by rw [if_pos hc139, if_neg hc150]), K208⟩
      · have K209 : Steps p.tables e below _ (T191.setTop (mkF m 169 #[.val (.int p0), .val (.int p1), .val (.long q2), .second, .val (.long q3), .second, .val (.ref b1), .val (.int v145_0), .val (.int v150_0), .val (.int v155_0), .val (.int v160_0), .val (.int v165_0), .val (.int v170_0)] [(.int (0 : Int32))])) := R195.trans (by
          show Steps p.tables e below (T191.setTop (mkF m 139 #[.val (.int p0), .val (.int p1), .val (.long q2), .second, .val (.long q3), .second, .val (.ref b1), .val (.int v145_0), .val (.int v150_0), .val (.int v155_0), .val (.int v160_0), .val (.int v165_0), .val (.int v170_0)] [(.int v150_0), (.int r192)])) _
          refine XS.icmpYes X191.here hx rfl (pc0 := 139) (pc' := 168) rfl (hb hby at_139) rfl (feq hc139).2 (by decide) (by decide) ?_
          show Steps p.tables e below (T191.setTop (mkF m 168 #[.val (.int p0), .val (.int p1), .val (.long q2), .second, .val (.long q3), .second, .val (.ref b1), .val (.int v145_0), .val (.int v150_0), .val (.int v155_0), .val (.int v160_0), .val (.int v165_0), .val (.int v170_0)] [])) _
          refine XS.iconst X191.here hx rfl (hb hby at_168) ?_
          show Steps p.tables e below (T191.setTop (mkF m 169 #[.val (.int p0), .val (.int p1), .val (.long q2), .second, .val (.long q3), .second, .val (.ref b1), .val (.int v145_0), .val (.int v150_0), .val (.int v155_0), .val (.int v160_0), .val (.int v165_0), .val (.int v170_0)] [(.int (0 : Int32))])) _
          exact Steps.refl _)
        exact ⟨T191, _, (0 : Int32), X191, eh191, N191', (by rw [if_neg hc139]), K209⟩
    have K210 := K194.trans S195
    have hone : (v195_0 &&& 1) = (1 : Int32) := own_law_2 p0 p1 q2 q3 v145_0 v150_0 v155_0 v160_0 v165_0 v170_0 r192 v195_0 hv145_0 hv150_0 hv155_0 hv160_0 hv165_0 hv170_0 hr192 hv195_0
    obtain ⟨fs, hr, hrun, hended, hW, hsame⟩ := X195.leave (v := some (.int (v195_0 &&& 1))) (fun h => by rw [Bd.returns] at h; cases h)
    exact ⟨_, _, K210.trans (retN X195 hx (t := .boolean) Bd.returns (by simp) (hb hby at_169) hr), hrun, hended, _, _, rfl, ⟨by rw [hone], N195⟩, ⟨_, rfl⟩, hW, hsame.mono (by decide) (by decide)⟩
  · rw [hcap] at K3
    have Z_211 : n0 ≤ h1.size := (Nat.le_trans Z0 E1.1)
    obtain ⟨_, _, ⟨T212, L212, k212, n212⟩, -, X212, ⟨Lc212, hQ212, l212, y212, z212⟩, st212⟩ := X1.specialBack hx (y := (⟨"com/example/spanfold/spanfold/RangeList", "<init>", "(I)V"⟩ : MethodName)) rfl hown (mvT hZ (hw _ (List.mem_of_getElem? (i := 3) rfl))) (mvT hZ (hw _ (List.mem_of_getElem? (i := 4) rfl))) (mvT hZ (hw _ (List.mem_of_getElem? (i := 5) rfl))) (by decide) (backOf (W := 1) (rm1 l Z a0 hw [] b1 (3 : Int32) (0 : Int32) .null .null .null h1 n0 Z_211 A1 F1_size ge_b1 (by decide) F1_froms F1_tos F1_ends) hZ (hw _ (List.mem_of_getElem? (i := 5) rfl)) (hw _ (List.mem_of_getElem? (i := 2) rfl)) (by decide) (by decide)) (g := (mkF m 7 #[.val (.int p0), .val (.int p1), .val (.long q2), .second, .val (.long q3), .second, .unset, .unset, .unset, .unset, .unset, .unset, .unset] [(.int (3 : Int32)), (.ref b1), (.ref b1)])) rfl (by rw [hml]; rfl) K3 (a := b1) (argsL := [(.int (3 : Int32))]) (rest := [(.ref b1)]) (lenOf pd_4 rfl) rfl (by show 2 * 0 + _ ≤ _; exact Nat.le_of_eq rfl) (hb hby at_7) (fun _ _ => ⟨rfl, e1, (by decide : 1 + 3 ≤ _), (by decide : 4 + 9 ≤ _)⟩)
    dsimp only [Pt.U, Pt.locs, Pt.cells, Pt.slots] at X212 l212 y212 z212 st212 hQ212
    subst l212 y212 z212
    obtain ⟨b212_b5, b212_b12, b212_b23, k5_212, k12_212, k23_212, rfl, N212, Kp212, Q212_0, Q212_1, Q212_2, Q212_3, Q212_4, Q212_5, Q212_6, Q212_7, Q212_8, Q212_9, Q212_10, sz212_b5, sz212_b12, sz212_b23, ne212_14, ne212_15, ne212_16⟩ := hQ212
    have ne_b1_b212_b5 : b1 ≠ b212_b5 := Nat.ne_of_lt (Nat.lt_of_lt_of_le A1.lt sz212_b5)
    have ge_b212_b5 : n0 ≤ b212_b5 := Nat.le_trans Z_211 sz212_b5
    have ne_b1_b212_b12 : b1 ≠ b212_b12 := Nat.ne_of_lt (Nat.lt_of_lt_of_le A1.lt sz212_b12)
    have ge_b212_b12 : n0 ≤ b212_b12 := Nat.le_trans Z_211 sz212_b12
    have ne_b1_b212_b23 : b1 ≠ b212_b23 := Nat.ne_of_lt (Nat.lt_of_lt_of_le A1.lt sz212_b23)
    have ge_b212_b23 : n0 ≤ b212_b23 := Nat.le_trans Z_211 sz212_b23
    have N212' := Fr.app N0 N212
    have K213 : Steps p.tables e below _ (T212.setTop (mkF m 10 #[.val (.int p0), .val (.int p1), .val (.long q2), .second, .val (.long q3), .second, .unset, .unset, .unset, .unset, .unset, .unset, .unset] [(.ref b1)])) := st212
    have K214 : Steps p.tables e below _ (T212.setTop (mkF m 15 #[.val (.int p0), .val (.int p1), .val (.long q2), .second, .val (.long q3), .second, .val (.ref b1), .unset, .unset, .unset, .unset, .unset, .unset] [(.int (p1 &&& (1 : Int32)))])) := K213.trans (by
      show Steps p.tables e below (T212.setTop (mkF m 10 #[.val (.int p0), .val (.int p1), .val (.long q2), .second, .val (.long q3), .second, .unset, .unset, .unset, .unset, .unset, .unset, .unset] [(.ref b1)])) _
      refine XS.astore X212.here hx rfl (hb hby at_10) rfl rfl (l' := #[.val (.int p0), .val (.int p1), .val (.long q2), .second, .val (.long q3), .second, .val (.ref b1), .unset, .unset, .unset, .unset, .unset, .unset]) rfl ?_
      show Steps p.tables e below (T212.setTop (mkF m 12 #[.val (.int p0), .val (.int p1), .val (.long q2), .second, .val (.long q3), .second, .val (.ref b1), .unset, .unset, .unset, .unset, .unset, .unset] [])) _
      refine XS.iloadN X212.here hx rfl (hb hby at_12) rfl ?_
      show Steps p.tables e below (T212.setTop (mkF m 13 #[.val (.int p0), .val (.int p1), .val (.long q2), .second, .val (.long q3), .second, .val (.ref b1), .unset, .unset, .unset, .unset, .unset, .unset] [(.int p1)])) _
      refine XS.iconst X212.here hx rfl (hb hby at_13) ?_
      show Steps p.tables e below (T212.setTop (mkF m 14 #[.val (.int p0), .val (.int p1), .val (.long q2), .second, .val (.long q3), .second, .val (.ref b1), .unset, .unset, .unset, .unset, .unset, .unset] [(.int (1 : Int32)), (.int p1)])) _
      refine XS.iand X212.here hx rfl (hb hby at_14) rfl ?_
      show Steps p.tables e below (T212.setTop (mkF m 15 #[.val (.int p0), .val (.int p1), .val (.long q2), .second, .val (.long q3), .second, .val (.ref b1), .unset, .unset, .unset, .unset, .unset, .unset] [(.int (p1 &&& (1 : Int32)))])) _
      exact Steps.refl _)
    obtain ⟨v215_0, hv215_0, S215⟩ : ∃ (v215_0 : Int32), (if (p1 &&& (1 : Int32)) = (0 : Int32) then (0 : Int32) else (1 : Int32)) = v215_0 ∧ Steps p.tables e below (T212.setTop (mkF m 15 #[.val (.int p0), .val (.int p1), .val (.long q2), .second, .val (.long q3), .second, .val (.ref b1), .unset, .unset, .unset, .unset, .unset, .unset] [(.int (p1 &&& (1 : Int32)))])) (T212.setTop (mkF m 23 #[.val (.int p0), .val (.int p1), .val (.long q2), .second, .val (.long q3), .second, .val (.ref b1), .unset, .unset, .unset, .unset, .unset, .unset] [(.int v215_0)])) := by
      have R215 : Steps p.tables e below (T212.setTop (mkF m 15 #[.val (.int p0), .val (.int p1), .val (.long q2), .second, .val (.long q3), .second, .val (.ref b1), .unset, .unset, .unset, .unset, .unset, .unset] [(.int (p1 &&& (1 : Int32)))])) (T212.setTop (mkF m 15 #[.val (.int p0), .val (.int p1), .val (.long q2), .second, .val (.long q3), .second, .val (.ref b1), .unset, .unset, .unset, .unset, .unset, .unset] [(.int (p1 &&& (1 : Int32)))])) := Steps.refl _
      by_cases hc15 : (p1 &&& (1 : Int32)) = (0 : Int32)
      · have K216 : Steps p.tables e below _ (T212.setTop (mkF m 23 #[.val (.int p0), .val (.int p1), .val (.long q2), .second, .val (.long q3), .second, .val (.ref b1), .unset, .unset, .unset, .unset, .unset, .unset] [(.int (0 : Int32))])) := R215.trans (by
          show Steps p.tables e below (T212.setTop (mkF m 15 #[.val (.int p0), .val (.int p1), .val (.long q2), .second, .val (.long q3), .second, .val (.ref b1), .unset, .unset, .unset, .unset, .unset, .unset] [(.int (p1 &&& (1 : Int32)))])) _
          refine XS.ifYes X212.here hx rfl (pc0 := 15) (pc' := 22) rfl (hb hby at_15) rfl ((if0 _ _).trans (teq hc15).1) (by decide) (by decide) ?_
          show Steps p.tables e below (T212.setTop (mkF m 22 #[.val (.int p0), .val (.int p1), .val (.long q2), .second, .val (.long q3), .second, .val (.ref b1), .unset, .unset, .unset, .unset, .unset, .unset] [])) _
          refine XS.iconst X212.here hx rfl (hb hby at_22) ?_
          show Steps p.tables e below (T212.setTop (mkF m 23 #[.val (.int p0), .val (.int p1), .val (.long q2), .second, .val (.long q3), .second, .val (.ref b1), .unset, .unset, .unset, .unset, .unset, .unset] [(.int (0 : Int32))])) _
          exact Steps.refl _)
        exact ⟨(0 : Int32), (by rw [if_pos hc15]), K216⟩
      · have K217 : Steps p.tables e below _ (T212.setTop (mkF m 23 #[.val (.int p0), .val (.int p1), .val (.long q2), .second, .val (.long q3), .second, .val (.ref b1), .unset, .unset, .unset, .unset, .unset, .unset] [(.int (1 : Int32))])) := R215.trans (by
          show Steps p.tables e below (T212.setTop (mkF m 15 #[.val (.int p0), .val (.int p1), .val (.long q2), .second, .val (.long q3), .second, .val (.ref b1), .unset, .unset, .unset, .unset, .unset, .unset] [(.int (p1 &&& (1 : Int32)))])) _
          refine XS.ifNo X212.here hx rfl (hb hby at_15) rfl ((if0 _ _).trans (feq hc15).1) ?_
          show Steps p.tables e below (T212.setTop (mkF m 18 #[.val (.int p0), .val (.int p1), .val (.long q2), .second, .val (.long q3), .second, .val (.ref b1), .unset, .unset, .unset, .unset, .unset, .unset] [])) _
          refine XS.iconst X212.here hx rfl (hb hby at_18) ?_
          show Steps p.tables e below (T212.setTop (mkF m 19 #[.val (.int p0), .val (.int p1), .val (.long q2), .second, .val (.long q3), .second, .val (.ref b1), .unset, .unset, .unset, .unset, .unset, .unset] [(.int (1 : Int32))])) _
          refine XS.goto X212.here hx rfl (pc0 := 19) (pc' := 23) rfl (hb hby at_19) (by decide) (by decide) ?_
          show Steps p.tables e below (T212.setTop (mkF m 23 #[.val (.int p0), .val (.int p1), .val (.long q2), .second, .val (.long q3), .second, .val (.ref b1), .unset, .unset, .unset, .unset, .unset, .unset] [(.int (1 : Int32))])) _
          exact Steps.refl _)
        exact ⟨(1 : Int32), (by rw [if_neg hc15]), K217⟩
    have K218 := K214.trans S215
    have K219 : Steps p.tables e below _ (T212.setTop (mkF m 28 #[.val (.int p0), .val (.int p1), .val (.long q2), .second, .val (.long q3), .second, .val (.ref b1), .val (.int v215_0), .unset, .unset, .unset, .unset, .unset] [(.int (p1 &&& (2 : Int32)))])) := K218.trans (by
      show Steps p.tables e below (T212.setTop (mkF m 23 #[.val (.int p0), .val (.int p1), .val (.long q2), .second, .val (.long q3), .second, .val (.ref b1), .unset, .unset, .unset, .unset, .unset, .unset] [(.int v215_0)])) _
      refine XS.istore X212.here hx rfl (hb hby at_23) rfl (l' := #[.val (.int p0), .val (.int p1), .val (.long q2), .second, .val (.long q3), .second, .val (.ref b1), .val (.int v215_0), .unset, .unset, .unset, .unset, .unset]) rfl ?_
      show Steps p.tables e below (T212.setTop (mkF m 25 #[.val (.int p0), .val (.int p1), .val (.long q2), .second, .val (.long q3), .second, .val (.ref b1), .val (.int v215_0), .unset, .unset, .unset, .unset, .unset] [])) _
      refine XS.iloadN X212.here hx rfl (hb hby at_25) rfl ?_
      show Steps p.tables e below (T212.setTop (mkF m 26 #[.val (.int p0), .val (.int p1), .val (.long q2), .second, .val (.long q3), .second, .val (.ref b1), .val (.int v215_0), .unset, .unset, .unset, .unset, .unset] [(.int p1)])) _
      refine XS.iconst X212.here hx rfl (hb hby at_26) ?_
      show Steps p.tables e below (T212.setTop (mkF m 27 #[.val (.int p0), .val (.int p1), .val (.long q2), .second, .val (.long q3), .second, .val (.ref b1), .val (.int v215_0), .unset, .unset, .unset, .unset, .unset] [(.int (2 : Int32)), (.int p1)])) _
      refine XS.iand X212.here hx rfl (hb hby at_27) rfl ?_
      show Steps p.tables e below (T212.setTop (mkF m 28 #[.val (.int p0), .val (.int p1), .val (.long q2), .second, .val (.long q3), .second, .val (.ref b1), .val (.int v215_0), .unset, .unset, .unset, .unset, .unset] [(.int (p1 &&& (2 : Int32)))])) _
      exact Steps.refl _)
    obtain ⟨v220_0, hv220_0, S220⟩ : ∃ (v220_0 : Int32), (if (p1 &&& (2 : Int32)) = (0 : Int32) then (0 : Int32) else (1 : Int32)) = v220_0 ∧ Steps p.tables e below (T212.setTop (mkF m 28 #[.val (.int p0), .val (.int p1), .val (.long q2), .second, .val (.long q3), .second, .val (.ref b1), .val (.int v215_0), .unset, .unset, .unset, .unset, .unset] [(.int (p1 &&& (2 : Int32)))])) (T212.setTop (mkF m 36 #[.val (.int p0), .val (.int p1), .val (.long q2), .second, .val (.long q3), .second, .val (.ref b1), .val (.int v215_0), .unset, .unset, .unset, .unset, .unset] [(.int v220_0)])) := by
      have R220 : Steps p.tables e below (T212.setTop (mkF m 28 #[.val (.int p0), .val (.int p1), .val (.long q2), .second, .val (.long q3), .second, .val (.ref b1), .val (.int v215_0), .unset, .unset, .unset, .unset, .unset] [(.int (p1 &&& (2 : Int32)))])) (T212.setTop (mkF m 28 #[.val (.int p0), .val (.int p1), .val (.long q2), .second, .val (.long q3), .second, .val (.ref b1), .val (.int v215_0), .unset, .unset, .unset, .unset, .unset] [(.int (p1 &&& (2 : Int32)))])) := Steps.refl _
      by_cases hc28 : (p1 &&& (2 : Int32)) = (0 : Int32)
      · have K221 : Steps p.tables e below _ (T212.setTop (mkF m 36 #[.val (.int p0), .val (.int p1), .val (.long q2), .second, .val (.long q3), .second, .val (.ref b1), .val (.int v215_0), .unset, .unset, .unset, .unset, .unset] [(.int (0 : Int32))])) := R220.trans (by
          show Steps p.tables e below (T212.setTop (mkF m 28 #[.val (.int p0), .val (.int p1), .val (.long q2), .second, .val (.long q3), .second, .val (.ref b1), .val (.int v215_0), .unset, .unset, .unset, .unset, .unset] [(.int (p1 &&& (2 : Int32)))])) _
          refine XS.ifYes X212.here hx rfl (pc0 := 28) (pc' := 35) rfl (hb hby at_28) rfl ((if0 _ _).trans (teq hc28).1) (by decide) (by decide) ?_
          show Steps p.tables e below (T212.setTop (mkF m 35 #[.val (.int p0), .val (.int p1), .val (.long q2), .second, .val (.long q3), .second, .val (.ref b1), .val (.int v215_0), .unset, .unset, .unset, .unset, .unset] [])) _
          refine XS.iconst X212.here hx rfl (hb hby at_35) ?_
          show Steps p.tables e below (T212.setTop (mkF m 36 #[.val (.int p0), .val (.int p1), .val (.long q2), .second, .val (.long q3), .second, .val (.ref b1), .val (.int v215_0), .unset, .unset, .unset, .unset, .unset] [(.int (0 : Int32))])) _
          exact Steps.refl _)
        exact ⟨(0 : Int32), (by rw [if_pos hc28]), K221⟩
      · have K222 : Steps p.tables e below _ (T212.setTop (mkF m 36 #[.val (.int p0), .val (.int p1), .val (.long q2), .second, .val (.long q3), .second, .val (.ref b1), .val (.int v215_0), .unset, .unset, .unset, .unset, .unset] [(.int (1 : Int32))])) := R220.trans (by
          show Steps p.tables e below (T212.setTop (mkF m 28 #[.val (.int p0), .val (.int p1), .val (.long q2), .second, .val (.long q3), .second, .val (.ref b1), .val (.int v215_0), .unset, .unset, .unset, .unset, .unset] [(.int (p1 &&& (2 : Int32)))])) _
          refine XS.ifNo X212.here hx rfl (hb hby at_28) rfl ((if0 _ _).trans (feq hc28).1) ?_
          show Steps p.tables e below (T212.setTop (mkF m 31 #[.val (.int p0), .val (.int p1), .val (.long q2), .second, .val (.long q3), .second, .val (.ref b1), .val (.int v215_0), .unset, .unset, .unset, .unset, .unset] [])) _
          refine XS.iconst X212.here hx rfl (hb hby at_31) ?_
          show Steps p.tables e below (T212.setTop (mkF m 32 #[.val (.int p0), .val (.int p1), .val (.long q2), .second, .val (.long q3), .second, .val (.ref b1), .val (.int v215_0), .unset, .unset, .unset, .unset, .unset] [(.int (1 : Int32))])) _
          refine XS.goto X212.here hx rfl (pc0 := 32) (pc' := 36) rfl (hb hby at_32) (by decide) (by decide) ?_
          show Steps p.tables e below (T212.setTop (mkF m 36 #[.val (.int p0), .val (.int p1), .val (.long q2), .second, .val (.long q3), .second, .val (.ref b1), .val (.int v215_0), .unset, .unset, .unset, .unset, .unset] [(.int (1 : Int32))])) _
          exact Steps.refl _)
        exact ⟨(1 : Int32), (by rw [if_neg hc28]), K222⟩
    have K223 := K219.trans S220
    have K224 : Steps p.tables e below _ (T212.setTop (mkF m 41 #[.val (.int p0), .val (.int p1), .val (.long q2), .second, .val (.long q3), .second, .val (.ref b1), .val (.int v215_0), .val (.int v220_0), .unset, .unset, .unset, .unset] [(.int (p1 &&& (4 : Int32)))])) := K223.trans (by
      show Steps p.tables e below (T212.setTop (mkF m 36 #[.val (.int p0), .val (.int p1), .val (.long q2), .second, .val (.long q3), .second, .val (.ref b1), .val (.int v215_0), .unset, .unset, .unset, .unset, .unset] [(.int v220_0)])) _
      refine XS.istore X212.here hx rfl (hb hby at_36) rfl (l' := #[.val (.int p0), .val (.int p1), .val (.long q2), .second, .val (.long q3), .second, .val (.ref b1), .val (.int v215_0), .val (.int v220_0), .unset, .unset, .unset, .unset]) rfl ?_
      show Steps p.tables e below (T212.setTop (mkF m 38 #[.val (.int p0), .val (.int p1), .val (.long q2), .second, .val (.long q3), .second, .val (.ref b1), .val (.int v215_0), .val (.int v220_0), .unset, .unset, .unset, .unset] [])) _
      refine XS.iloadN X212.here hx rfl (hb hby at_38) rfl ?_
      show Steps p.tables e below (T212.setTop (mkF m 39 #[.val (.int p0), .val (.int p1), .val (.long q2), .second, .val (.long q3), .second, .val (.ref b1), .val (.int v215_0), .val (.int v220_0), .unset, .unset, .unset, .unset] [(.int p1)])) _
      refine XS.iconst X212.here hx rfl (hb hby at_39) ?_
      show Steps p.tables e below (T212.setTop (mkF m 40 #[.val (.int p0), .val (.int p1), .val (.long q2), .second, .val (.long q3), .second, .val (.ref b1), .val (.int v215_0), .val (.int v220_0), .unset, .unset, .unset, .unset] [(.int (4 : Int32)), (.int p1)])) _
      refine XS.iand X212.here hx rfl (hb hby at_40) rfl ?_
      show Steps p.tables e below (T212.setTop (mkF m 41 #[.val (.int p0), .val (.int p1), .val (.long q2), .second, .val (.long q3), .second, .val (.ref b1), .val (.int v215_0), .val (.int v220_0), .unset, .unset, .unset, .unset] [(.int (p1 &&& (4 : Int32)))])) _
      exact Steps.refl _)
    obtain ⟨v225_0, hv225_0, S225⟩ : ∃ (v225_0 : Int32), (if (p1 &&& (4 : Int32)) = (0 : Int32) then (0 : Int32) else (1 : Int32)) = v225_0 ∧ Steps p.tables e below (T212.setTop (mkF m 41 #[.val (.int p0), .val (.int p1), .val (.long q2), .second, .val (.long q3), .second, .val (.ref b1), .val (.int v215_0), .val (.int v220_0), .unset, .unset, .unset, .unset] [(.int (p1 &&& (4 : Int32)))])) (T212.setTop (mkF m 49 #[.val (.int p0), .val (.int p1), .val (.long q2), .second, .val (.long q3), .second, .val (.ref b1), .val (.int v215_0), .val (.int v220_0), .unset, .unset, .unset, .unset] [(.int v225_0)])) := by
      have R225 : Steps p.tables e below (T212.setTop (mkF m 41 #[.val (.int p0), .val (.int p1), .val (.long q2), .second, .val (.long q3), .second, .val (.ref b1), .val (.int v215_0), .val (.int v220_0), .unset, .unset, .unset, .unset] [(.int (p1 &&& (4 : Int32)))])) (T212.setTop (mkF m 41 #[.val (.int p0), .val (.int p1), .val (.long q2), .second, .val (.long q3), .second, .val (.ref b1), .val (.int v215_0), .val (.int v220_0), .unset, .unset, .unset, .unset] [(.int (p1 &&& (4 : Int32)))])) := Steps.refl _
      by_cases hc41 : (p1 &&& (4 : Int32)) = (0 : Int32)
      · have K226 : Steps p.tables e below _ (T212.setTop (mkF m 49 #[.val (.int p0), .val (.int p1), .val (.long q2), .second, .val (.long q3), .second, .val (.ref b1), .val (.int v215_0), .val (.int v220_0), .unset, .unset, .unset, .unset] [(.int (0 : Int32))])) := R225.trans (by
          show Steps p.tables e below (T212.setTop (mkF m 41 #[.val (.int p0), .val (.int p1), .val (.long q2), .second, .val (.long q3), .second, .val (.ref b1), .val (.int v215_0), .val (.int v220_0), .unset, .unset, .unset, .unset] [(.int (p1 &&& (4 : Int32)))])) _
          refine XS.ifYes X212.here hx rfl (pc0 := 41) (pc' := 48) rfl (hb hby at_41) rfl ((if0 _ _).trans (teq hc41).1) (by decide) (by decide) ?_
          show Steps p.tables e below (T212.setTop (mkF m 48 #[.val (.int p0), .val (.int p1), .val (.long q2), .second, .val (.long q3), .second, .val (.ref b1), .val (.int v215_0), .val (.int v220_0), .unset, .unset, .unset, .unset] [])) _
          refine XS.iconst X212.here hx rfl (hb hby at_48) ?_
          show Steps p.tables e below (T212.setTop (mkF m 49 #[.val (.int p0), .val (.int p1), .val (.long q2), .second, .val (.long q3), .second, .val (.ref b1), .val (.int v215_0), .val (.int v220_0), .unset, .unset, .unset, .unset] [(.int (0 : Int32))])) _
          exact Steps.refl _)
        exact ⟨(0 : Int32), (by rw [if_pos hc41]), K226⟩
      · have K227 : Steps p.tables e below _ (T212.setTop (mkF m 49 #[.val (.int p0), .val (.int p1), .val (.long q2), .second, .val (.long q3), .second, .val (.ref b1), .val (.int v215_0), .val (.int v220_0), .unset, .unset, .unset, .unset] [(.int (1 : Int32))])) := R225.trans (by
          show Steps p.tables e below (T212.setTop (mkF m 41 #[.val (.int p0), .val (.int p1), .val (.long q2), .second, .val (.long q3), .second, .val (.ref b1), .val (.int v215_0), .val (.int v220_0), .unset, .unset, .unset, .unset] [(.int (p1 &&& (4 : Int32)))])) _
          refine XS.ifNo X212.here hx rfl (hb hby at_41) rfl ((if0 _ _).trans (feq hc41).1) ?_
          show Steps p.tables e below (T212.setTop (mkF m 44 #[.val (.int p0), .val (.int p1), .val (.long q2), .second, .val (.long q3), .second, .val (.ref b1), .val (.int v215_0), .val (.int v220_0), .unset, .unset, .unset, .unset] [])) _
          refine XS.iconst X212.here hx rfl (hb hby at_44) ?_
          show Steps p.tables e below (T212.setTop (mkF m 45 #[.val (.int p0), .val (.int p1), .val (.long q2), .second, .val (.long q3), .second, .val (.ref b1), .val (.int v215_0), .val (.int v220_0), .unset, .unset, .unset, .unset] [(.int (1 : Int32))])) _
          refine XS.goto X212.here hx rfl (pc0 := 45) (pc' := 49) rfl (hb hby at_45) (by decide) (by decide) ?_
          show Steps p.tables e below (T212.setTop (mkF m 49 #[.val (.int p0), .val (.int p1), .val (.long q2), .second, .val (.long q3), .second, .val (.ref b1), .val (.int v215_0), .val (.int v220_0), .unset, .unset, .unset, .unset] [(.int (1 : Int32))])) _
          exact Steps.refl _)
        exact ⟨(1 : Int32), (by rw [if_neg hc41]), K227⟩
    have K228 := K224.trans S225
    have K229 : Steps p.tables e below _ (T212.setTop (mkF m 55 #[.val (.int p0), .val (.int p1), .val (.long q2), .second, .val (.long q3), .second, .val (.ref b1), .val (.int v215_0), .val (.int v220_0), .val (.int v225_0), .unset, .unset, .unset] [(.int (p1 &&& (8 : Int32)))])) := K228.trans (by
      show Steps p.tables e below (T212.setTop (mkF m 49 #[.val (.int p0), .val (.int p1), .val (.long q2), .second, .val (.long q3), .second, .val (.ref b1), .val (.int v215_0), .val (.int v220_0), .unset, .unset, .unset, .unset] [(.int v225_0)])) _
      refine XS.istore X212.here hx rfl (hb hby at_49) rfl (l' := #[.val (.int p0), .val (.int p1), .val (.long q2), .second, .val (.long q3), .second, .val (.ref b1), .val (.int v215_0), .val (.int v220_0), .val (.int v225_0), .unset, .unset, .unset]) rfl ?_
      show Steps p.tables e below (T212.setTop (mkF m 51 #[.val (.int p0), .val (.int p1), .val (.long q2), .second, .val (.long q3), .second, .val (.ref b1), .val (.int v215_0), .val (.int v220_0), .val (.int v225_0), .unset, .unset, .unset] [])) _
      refine XS.iloadN X212.here hx rfl (hb hby at_51) rfl ?_
      show Steps p.tables e below (T212.setTop (mkF m 52 #[.val (.int p0), .val (.int p1), .val (.long q2), .second, .val (.long q3), .second, .val (.ref b1), .val (.int v215_0), .val (.int v220_0), .val (.int v225_0), .unset, .unset, .unset] [(.int p1)])) _
      refine XS.bipush X212.here hx rfl (hb hby at_52) ?_
      show Steps p.tables e below (T212.setTop (mkF m 54 #[.val (.int p0), .val (.int p1), .val (.long q2), .second, .val (.long q3), .second, .val (.ref b1), .val (.int v215_0), .val (.int v220_0), .val (.int v225_0), .unset, .unset, .unset] [(.int (8 : Int32)), (.int p1)])) _
      refine XS.iand X212.here hx rfl (hb hby at_54) rfl ?_
      show Steps p.tables e below (T212.setTop (mkF m 55 #[.val (.int p0), .val (.int p1), .val (.long q2), .second, .val (.long q3), .second, .val (.ref b1), .val (.int v215_0), .val (.int v220_0), .val (.int v225_0), .unset, .unset, .unset] [(.int (p1 &&& (8 : Int32)))])) _
      exact Steps.refl _)
    obtain ⟨v230_0, hv230_0, S230⟩ : ∃ (v230_0 : Int32), (if (p1 &&& (8 : Int32)) = (0 : Int32) then (0 : Int32) else (1 : Int32)) = v230_0 ∧ Steps p.tables e below (T212.setTop (mkF m 55 #[.val (.int p0), .val (.int p1), .val (.long q2), .second, .val (.long q3), .second, .val (.ref b1), .val (.int v215_0), .val (.int v220_0), .val (.int v225_0), .unset, .unset, .unset] [(.int (p1 &&& (8 : Int32)))])) (T212.setTop (mkF m 63 #[.val (.int p0), .val (.int p1), .val (.long q2), .second, .val (.long q3), .second, .val (.ref b1), .val (.int v215_0), .val (.int v220_0), .val (.int v225_0), .unset, .unset, .unset] [(.int v230_0)])) := by
      have R230 : Steps p.tables e below (T212.setTop (mkF m 55 #[.val (.int p0), .val (.int p1), .val (.long q2), .second, .val (.long q3), .second, .val (.ref b1), .val (.int v215_0), .val (.int v220_0), .val (.int v225_0), .unset, .unset, .unset] [(.int (p1 &&& (8 : Int32)))])) (T212.setTop (mkF m 55 #[.val (.int p0), .val (.int p1), .val (.long q2), .second, .val (.long q3), .second, .val (.ref b1), .val (.int v215_0), .val (.int v220_0), .val (.int v225_0), .unset, .unset, .unset] [(.int (p1 &&& (8 : Int32)))])) := Steps.refl _
      by_cases hc55 : (p1 &&& (8 : Int32)) = (0 : Int32)
      · have K231 : Steps p.tables e below _ (T212.setTop (mkF m 63 #[.val (.int p0), .val (.int p1), .val (.long q2), .second, .val (.long q3), .second, .val (.ref b1), .val (.int v215_0), .val (.int v220_0), .val (.int v225_0), .unset, .unset, .unset] [(.int (0 : Int32))])) := R230.trans (by
          show Steps p.tables e below (T212.setTop (mkF m 55 #[.val (.int p0), .val (.int p1), .val (.long q2), .second, .val (.long q3), .second, .val (.ref b1), .val (.int v215_0), .val (.int v220_0), .val (.int v225_0), .unset, .unset, .unset] [(.int (p1 &&& (8 : Int32)))])) _
          refine XS.ifYes X212.here hx rfl (pc0 := 55) (pc' := 62) rfl (hb hby at_55) rfl ((if0 _ _).trans (teq hc55).1) (by decide) (by decide) ?_
          show Steps p.tables e below (T212.setTop (mkF m 62 #[.val (.int p0), .val (.int p1), .val (.long q2), .second, .val (.long q3), .second, .val (.ref b1), .val (.int v215_0), .val (.int v220_0), .val (.int v225_0), .unset, .unset, .unset] [])) _
          refine XS.iconst X212.here hx rfl (hb hby at_62) ?_
          show Steps p.tables e below (T212.setTop (mkF m 63 #[.val (.int p0), .val (.int p1), .val (.long q2), .second, .val (.long q3), .second, .val (.ref b1), .val (.int v215_0), .val (.int v220_0), .val (.int v225_0), .unset, .unset, .unset] [(.int (0 : Int32))])) _
          exact Steps.refl _)
        exact ⟨(0 : Int32), (by rw [if_pos hc55]), K231⟩
      · have K232 : Steps p.tables e below _ (T212.setTop (mkF m 63 #[.val (.int p0), .val (.int p1), .val (.long q2), .second, .val (.long q3), .second, .val (.ref b1), .val (.int v215_0), .val (.int v220_0), .val (.int v225_0), .unset, .unset, .unset] [(.int (1 : Int32))])) := R230.trans (by
          show Steps p.tables e below (T212.setTop (mkF m 55 #[.val (.int p0), .val (.int p1), .val (.long q2), .second, .val (.long q3), .second, .val (.ref b1), .val (.int v215_0), .val (.int v220_0), .val (.int v225_0), .unset, .unset, .unset] [(.int (p1 &&& (8 : Int32)))])) _
          refine XS.ifNo X212.here hx rfl (hb hby at_55) rfl ((if0 _ _).trans (feq hc55).1) ?_
          show Steps p.tables e below (T212.setTop (mkF m 58 #[.val (.int p0), .val (.int p1), .val (.long q2), .second, .val (.long q3), .second, .val (.ref b1), .val (.int v215_0), .val (.int v220_0), .val (.int v225_0), .unset, .unset, .unset] [])) _
          refine XS.iconst X212.here hx rfl (hb hby at_58) ?_
          show Steps p.tables e below (T212.setTop (mkF m 59 #[.val (.int p0), .val (.int p1), .val (.long q2), .second, .val (.long q3), .second, .val (.ref b1), .val (.int v215_0), .val (.int v220_0), .val (.int v225_0), .unset, .unset, .unset] [(.int (1 : Int32))])) _
          refine XS.goto X212.here hx rfl (pc0 := 59) (pc' := 63) rfl (hb hby at_59) (by decide) (by decide) ?_
          show Steps p.tables e below (T212.setTop (mkF m 63 #[.val (.int p0), .val (.int p1), .val (.long q2), .second, .val (.long q3), .second, .val (.ref b1), .val (.int v215_0), .val (.int v220_0), .val (.int v225_0), .unset, .unset, .unset] [(.int (1 : Int32))])) _
          exact Steps.refl _)
        exact ⟨(1 : Int32), (by rw [if_neg hc55]), K232⟩
    have K233 := K229.trans S230
    have K234 : Steps p.tables e below _ (T212.setTop (mkF m 69 #[.val (.int p0), .val (.int p1), .val (.long q2), .second, .val (.long q3), .second, .val (.ref b1), .val (.int v215_0), .val (.int v220_0), .val (.int v225_0), .val (.int v230_0), .unset, .unset] [(.int (p1 &&& (16 : Int32)))])) := K233.trans (by
      show Steps p.tables e below (T212.setTop (mkF m 63 #[.val (.int p0), .val (.int p1), .val (.long q2), .second, .val (.long q3), .second, .val (.ref b1), .val (.int v215_0), .val (.int v220_0), .val (.int v225_0), .unset, .unset, .unset] [(.int v230_0)])) _
      refine XS.istore X212.here hx rfl (hb hby at_63) rfl (l' := #[.val (.int p0), .val (.int p1), .val (.long q2), .second, .val (.long q3), .second, .val (.ref b1), .val (.int v215_0), .val (.int v220_0), .val (.int v225_0), .val (.int v230_0), .unset, .unset]) rfl ?_
      show Steps p.tables e below (T212.setTop (mkF m 65 #[.val (.int p0), .val (.int p1), .val (.long q2), .second, .val (.long q3), .second, .val (.ref b1), .val (.int v215_0), .val (.int v220_0), .val (.int v225_0), .val (.int v230_0), .unset, .unset] [])) _
      refine XS.iloadN X212.here hx rfl (hb hby at_65) rfl ?_
      show Steps p.tables e below (T212.setTop (mkF m 66 #[.val (.int p0), .val (.int p1), .val (.long q2), .second, .val (.long q3), .second, .val (.ref b1), .val (.int v215_0), .val (.int v220_0), .val (.int v225_0), .val (.int v230_0), .unset, .unset] [(.int p1)])) _
      refine XS.bipush X212.here hx rfl (hb hby at_66) ?_
      show Steps p.tables e below (T212.setTop (mkF m 68 #[.val (.int p0), .val (.int p1), .val (.long q2), .second, .val (.long q3), .second, .val (.ref b1), .val (.int v215_0), .val (.int v220_0), .val (.int v225_0), .val (.int v230_0), .unset, .unset] [(.int (16 : Int32)), (.int p1)])) _
      refine XS.iand X212.here hx rfl (hb hby at_68) rfl ?_
      show Steps p.tables e below (T212.setTop (mkF m 69 #[.val (.int p0), .val (.int p1), .val (.long q2), .second, .val (.long q3), .second, .val (.ref b1), .val (.int v215_0), .val (.int v220_0), .val (.int v225_0), .val (.int v230_0), .unset, .unset] [(.int (p1 &&& (16 : Int32)))])) _
      exact Steps.refl _)
    obtain ⟨v235_0, hv235_0, S235⟩ : ∃ (v235_0 : Int32), (if (p1 &&& (16 : Int32)) = (0 : Int32) then (0 : Int32) else (1 : Int32)) = v235_0 ∧ Steps p.tables e below (T212.setTop (mkF m 69 #[.val (.int p0), .val (.int p1), .val (.long q2), .second, .val (.long q3), .second, .val (.ref b1), .val (.int v215_0), .val (.int v220_0), .val (.int v225_0), .val (.int v230_0), .unset, .unset] [(.int (p1 &&& (16 : Int32)))])) (T212.setTop (mkF m 77 #[.val (.int p0), .val (.int p1), .val (.long q2), .second, .val (.long q3), .second, .val (.ref b1), .val (.int v215_0), .val (.int v220_0), .val (.int v225_0), .val (.int v230_0), .unset, .unset] [(.int v235_0)])) := by
      have R235 : Steps p.tables e below (T212.setTop (mkF m 69 #[.val (.int p0), .val (.int p1), .val (.long q2), .second, .val (.long q3), .second, .val (.ref b1), .val (.int v215_0), .val (.int v220_0), .val (.int v225_0), .val (.int v230_0), .unset, .unset] [(.int (p1 &&& (16 : Int32)))])) (T212.setTop (mkF m 69 #[.val (.int p0), .val (.int p1), .val (.long q2), .second, .val (.long q3), .second, .val (.ref b1), .val (.int v215_0), .val (.int v220_0), .val (.int v225_0), .val (.int v230_0), .unset, .unset] [(.int (p1 &&& (16 : Int32)))])) := Steps.refl _
      by_cases hc69 : (p1 &&& (16 : Int32)) = (0 : Int32)
      · have K236 : Steps p.tables e below _ (T212.setTop (mkF m 77 #[.val (.int p0), .val (.int p1), .val (.long q2), .second, .val (.long q3), .second, .val (.ref b1), .val (.int v215_0), .val (.int v220_0), .val (.int v225_0), .val (.int v230_0), .unset, .unset] [(.int (0 : Int32))])) := R235.trans (by
          show Steps p.tables e below (T212.setTop (mkF m 69 #[.val (.int p0), .val (.int p1), .val (.long q2), .second, .val (.long q3), .second, .val (.ref b1), .val (.int v215_0), .val (.int v220_0), .val (.int v225_0), .val (.int v230_0), .unset, .unset] [(.int (p1 &&& (16 : Int32)))])) _
          refine XS.ifYes X212.here hx rfl (pc0 := 69) (pc' := 76) rfl (hb hby at_69) rfl ((if0 _ _).trans (teq hc69).1) (by decide) (by decide) ?_
          show Steps p.tables e below (T212.setTop (mkF m 76 #[.val (.int p0), .val (.int p1), .val (.long q2), .second, .val (.long q3), .second, .val (.ref b1), .val (.int v215_0), .val (.int v220_0), .val (.int v225_0), .val (.int v230_0), .unset, .unset] [])) _
          refine XS.iconst X212.here hx rfl (hb hby at_76) ?_
          show Steps p.tables e below (T212.setTop (mkF m 77 #[.val (.int p0), .val (.int p1), .val (.long q2), .second, .val (.long q3), .second, .val (.ref b1), .val (.int v215_0), .val (.int v220_0), .val (.int v225_0), .val (.int v230_0), .unset, .unset] [(.int (0 : Int32))])) _
          exact Steps.refl _)
        exact ⟨(0 : Int32), (by rw [if_pos hc69]), K236⟩
      · have K237 : Steps p.tables e below _ (T212.setTop (mkF m 77 #[.val (.int p0), .val (.int p1), .val (.long q2), .second, .val (.long q3), .second, .val (.ref b1), .val (.int v215_0), .val (.int v220_0), .val (.int v225_0), .val (.int v230_0), .unset, .unset] [(.int (1 : Int32))])) := R235.trans (by
          show Steps p.tables e below (T212.setTop (mkF m 69 #[.val (.int p0), .val (.int p1), .val (.long q2), .second, .val (.long q3), .second, .val (.ref b1), .val (.int v215_0), .val (.int v220_0), .val (.int v225_0), .val (.int v230_0), .unset, .unset] [(.int (p1 &&& (16 : Int32)))])) _
          refine XS.ifNo X212.here hx rfl (hb hby at_69) rfl ((if0 _ _).trans (feq hc69).1) ?_
          show Steps p.tables e below (T212.setTop (mkF m 72 #[.val (.int p0), .val (.int p1), .val (.long q2), .second, .val (.long q3), .second, .val (.ref b1), .val (.int v215_0), .val (.int v220_0), .val (.int v225_0), .val (.int v230_0), .unset, .unset] [])) _
          refine XS.iconst X212.here hx rfl (hb hby at_72) ?_
          show Steps p.tables e below (T212.setTop (mkF m 73 #[.val (.int p0), .val (.int p1), .val (.long q2), .second, .val (.long q3), .second, .val (.ref b1), .val (.int v215_0), .val (.int v220_0), .val (.int v225_0), .val (.int v230_0), .unset, .unset] [(.int (1 : Int32))])) _
          refine XS.goto X212.here hx rfl (pc0 := 73) (pc' := 77) rfl (hb hby at_73) (by decide) (by decide) ?_
          show Steps p.tables e below (T212.setTop (mkF m 77 #[.val (.int p0), .val (.int p1), .val (.long q2), .second, .val (.long q3), .second, .val (.ref b1), .val (.int v215_0), .val (.int v220_0), .val (.int v225_0), .val (.int v230_0), .unset, .unset] [(.int (1 : Int32))])) _
          exact Steps.refl _)
        exact ⟨(1 : Int32), (by rw [if_neg hc69]), K237⟩
    have K238 := K234.trans S235
    have K239 : Steps p.tables e below _ (T212.setTop (mkF m 83 #[.val (.int p0), .val (.int p1), .val (.long q2), .second, .val (.long q3), .second, .val (.ref b1), .val (.int v215_0), .val (.int v220_0), .val (.int v225_0), .val (.int v230_0), .val (.int v235_0), .unset] [(.int (p1 &&& (32 : Int32)))])) := K238.trans (by
      show Steps p.tables e below (T212.setTop (mkF m 77 #[.val (.int p0), .val (.int p1), .val (.long q2), .second, .val (.long q3), .second, .val (.ref b1), .val (.int v215_0), .val (.int v220_0), .val (.int v225_0), .val (.int v230_0), .unset, .unset] [(.int v235_0)])) _
      refine XS.istore X212.here hx rfl (hb hby at_77) rfl (l' := #[.val (.int p0), .val (.int p1), .val (.long q2), .second, .val (.long q3), .second, .val (.ref b1), .val (.int v215_0), .val (.int v220_0), .val (.int v225_0), .val (.int v230_0), .val (.int v235_0), .unset]) rfl ?_
      show Steps p.tables e below (T212.setTop (mkF m 79 #[.val (.int p0), .val (.int p1), .val (.long q2), .second, .val (.long q3), .second, .val (.ref b1), .val (.int v215_0), .val (.int v220_0), .val (.int v225_0), .val (.int v230_0), .val (.int v235_0), .unset] [])) _
      refine XS.iloadN X212.here hx rfl (hb hby at_79) rfl ?_
      show Steps p.tables e below (T212.setTop (mkF m 80 #[.val (.int p0), .val (.int p1), .val (.long q2), .second, .val (.long q3), .second, .val (.ref b1), .val (.int v215_0), .val (.int v220_0), .val (.int v225_0), .val (.int v230_0), .val (.int v235_0), .unset] [(.int p1)])) _
      refine XS.bipush X212.here hx rfl (hb hby at_80) ?_
      show Steps p.tables e below (T212.setTop (mkF m 82 #[.val (.int p0), .val (.int p1), .val (.long q2), .second, .val (.long q3), .second, .val (.ref b1), .val (.int v215_0), .val (.int v220_0), .val (.int v225_0), .val (.int v230_0), .val (.int v235_0), .unset] [(.int (32 : Int32)), (.int p1)])) _
      refine XS.iand X212.here hx rfl (hb hby at_82) rfl ?_
      show Steps p.tables e below (T212.setTop (mkF m 83 #[.val (.int p0), .val (.int p1), .val (.long q2), .second, .val (.long q3), .second, .val (.ref b1), .val (.int v215_0), .val (.int v220_0), .val (.int v225_0), .val (.int v230_0), .val (.int v235_0), .unset] [(.int (p1 &&& (32 : Int32)))])) _
      exact Steps.refl _)
    obtain ⟨v240_0, hv240_0, S240⟩ : ∃ (v240_0 : Int32), (if (p1 &&& (32 : Int32)) = (0 : Int32) then (0 : Int32) else (1 : Int32)) = v240_0 ∧ Steps p.tables e below (T212.setTop (mkF m 83 #[.val (.int p0), .val (.int p1), .val (.long q2), .second, .val (.long q3), .second, .val (.ref b1), .val (.int v215_0), .val (.int v220_0), .val (.int v225_0), .val (.int v230_0), .val (.int v235_0), .unset] [(.int (p1 &&& (32 : Int32)))])) (T212.setTop (mkF m 91 #[.val (.int p0), .val (.int p1), .val (.long q2), .second, .val (.long q3), .second, .val (.ref b1), .val (.int v215_0), .val (.int v220_0), .val (.int v225_0), .val (.int v230_0), .val (.int v235_0), .unset] [(.int v240_0)])) := by
      have R240 : Steps p.tables e below (T212.setTop (mkF m 83 #[.val (.int p0), .val (.int p1), .val (.long q2), .second, .val (.long q3), .second, .val (.ref b1), .val (.int v215_0), .val (.int v220_0), .val (.int v225_0), .val (.int v230_0), .val (.int v235_0), .unset] [(.int (p1 &&& (32 : Int32)))])) (T212.setTop (mkF m 83 #[.val (.int p0), .val (.int p1), .val (.long q2), .second, .val (.long q3), .second, .val (.ref b1), .val (.int v215_0), .val (.int v220_0), .val (.int v225_0), .val (.int v230_0), .val (.int v235_0), .unset] [(.int (p1 &&& (32 : Int32)))])) := Steps.refl _
      by_cases hc83 : (p1 &&& (32 : Int32)) = (0 : Int32)
      · have K241 : Steps p.tables e below _ (T212.setTop (mkF m 91 #[.val (.int p0), .val (.int p1), .val (.long q2), .second, .val (.long q3), .second, .val (.ref b1), .val (.int v215_0), .val (.int v220_0), .val (.int v225_0), .val (.int v230_0), .val (.int v235_0), .unset] [(.int (0 : Int32))])) := R240.trans (by
          show Steps p.tables e below (T212.setTop (mkF m 83 #[.val (.int p0), .val (.int p1), .val (.long q2), .second, .val (.long q3), .second, .val (.ref b1), .val (.int v215_0), .val (.int v220_0), .val (.int v225_0), .val (.int v230_0), .val (.int v235_0), .unset] [(.int (p1 &&& (32 : Int32)))])) _
          refine XS.ifYes X212.here hx rfl (pc0 := 83) (pc' := 90) rfl (hb hby at_83) rfl ((if0 _ _).trans (teq hc83).1) (by decide) (by decide) ?_
          show Steps p.tables e below (T212.setTop (mkF m 90 #[.val (.int p0), .val (.int p1), .val (.long q2), .second, .val (.long q3), .second, .val (.ref b1), .val (.int v215_0), .val (.int v220_0), .val (.int v225_0), .val (.int v230_0), .val (.int v235_0), .unset] [])) _
          refine XS.iconst X212.here hx rfl (hb hby at_90) ?_
          show Steps p.tables e below (T212.setTop (mkF m 91 #[.val (.int p0), .val (.int p1), .val (.long q2), .second, .val (.long q3), .second, .val (.ref b1), .val (.int v215_0), .val (.int v220_0), .val (.int v225_0), .val (.int v230_0), .val (.int v235_0), .unset] [(.int (0 : Int32))])) _
          exact Steps.refl _)
        exact ⟨(0 : Int32), (by rw [if_pos hc83]), K241⟩
      · have K242 : Steps p.tables e below _ (T212.setTop (mkF m 91 #[.val (.int p0), .val (.int p1), .val (.long q2), .second, .val (.long q3), .second, .val (.ref b1), .val (.int v215_0), .val (.int v220_0), .val (.int v225_0), .val (.int v230_0), .val (.int v235_0), .unset] [(.int (1 : Int32))])) := R240.trans (by
          show Steps p.tables e below (T212.setTop (mkF m 83 #[.val (.int p0), .val (.int p1), .val (.long q2), .second, .val (.long q3), .second, .val (.ref b1), .val (.int v215_0), .val (.int v220_0), .val (.int v225_0), .val (.int v230_0), .val (.int v235_0), .unset] [(.int (p1 &&& (32 : Int32)))])) _
          refine XS.ifNo X212.here hx rfl (hb hby at_83) rfl ((if0 _ _).trans (feq hc83).1) ?_
          show Steps p.tables e below (T212.setTop (mkF m 86 #[.val (.int p0), .val (.int p1), .val (.long q2), .second, .val (.long q3), .second, .val (.ref b1), .val (.int v215_0), .val (.int v220_0), .val (.int v225_0), .val (.int v230_0), .val (.int v235_0), .unset] [])) _
          refine XS.iconst X212.here hx rfl (hb hby at_86) ?_
          show Steps p.tables e below (T212.setTop (mkF m 87 #[.val (.int p0), .val (.int p1), .val (.long q2), .second, .val (.long q3), .second, .val (.ref b1), .val (.int v215_0), .val (.int v220_0), .val (.int v225_0), .val (.int v230_0), .val (.int v235_0), .unset] [(.int (1 : Int32))])) _
          refine XS.goto X212.here hx rfl (pc0 := 87) (pc' := 91) rfl (hb hby at_87) (by decide) (by decide) ?_
          show Steps p.tables e below (T212.setTop (mkF m 91 #[.val (.int p0), .val (.int p1), .val (.long q2), .second, .val (.long q3), .second, .val (.ref b1), .val (.int v215_0), .val (.int v220_0), .val (.int v225_0), .val (.int v230_0), .val (.int v235_0), .unset] [(.int (1 : Int32))])) _
          exact Steps.refl _)
        exact ⟨(1 : Int32), (by rw [if_neg hc83]), K242⟩
    have K243 := K239.trans S240
    have K244 : Steps p.tables e below _ (T212.setTop (mkF m 102 #[.val (.int p0), .val (.int p1), .val (.long q2), .second, .val (.long q3), .second, .val (.ref b1), .val (.int v215_0), .val (.int v220_0), .val (.int v225_0), .val (.int v230_0), .val (.int v235_0), .val (.int v240_0)] [(.long q3), (.int v220_0), (.long q2), (.int v215_0), (.ref b1)])) := K243.trans (by
      show Steps p.tables e below (T212.setTop (mkF m 91 #[.val (.int p0), .val (.int p1), .val (.long q2), .second, .val (.long q3), .second, .val (.ref b1), .val (.int v215_0), .val (.int v220_0), .val (.int v225_0), .val (.int v230_0), .val (.int v235_0), .unset] [(.int v240_0)])) _
      refine XS.istore X212.here hx rfl (hb hby at_91) rfl (l' := #[.val (.int p0), .val (.int p1), .val (.long q2), .second, .val (.long q3), .second, .val (.ref b1), .val (.int v215_0), .val (.int v220_0), .val (.int v225_0), .val (.int v230_0), .val (.int v235_0), .val (.int v240_0)]) rfl ?_
      show Steps p.tables e below (T212.setTop (mkF m 93 #[.val (.int p0), .val (.int p1), .val (.long q2), .second, .val (.long q3), .second, .val (.ref b1), .val (.int v215_0), .val (.int v220_0), .val (.int v225_0), .val (.int v230_0), .val (.int v235_0), .val (.int v240_0)] [])) _
      refine XS.aload X212.here hx rfl (hb hby at_93) rfl rfl ?_
      show Steps p.tables e below (T212.setTop (mkF m 95 #[.val (.int p0), .val (.int p1), .val (.long q2), .second, .val (.long q3), .second, .val (.ref b1), .val (.int v215_0), .val (.int v220_0), .val (.int v225_0), .val (.int v230_0), .val (.int v235_0), .val (.int v240_0)] [(.ref b1)])) _
      refine XS.iload X212.here hx rfl (hb hby at_95) rfl ?_
      show Steps p.tables e below (T212.setTop (mkF m 97 #[.val (.int p0), .val (.int p1), .val (.long q2), .second, .val (.long q3), .second, .val (.ref b1), .val (.int v215_0), .val (.int v220_0), .val (.int v225_0), .val (.int v230_0), .val (.int v235_0), .val (.int v240_0)] [(.int v215_0), (.ref b1)])) _
      refine XS.lloadN X212.here hx rfl (hb hby at_97) rfl ?_
      show Steps p.tables e below (T212.setTop (mkF m 98 #[.val (.int p0), .val (.int p1), .val (.long q2), .second, .val (.long q3), .second, .val (.ref b1), .val (.int v215_0), .val (.int v220_0), .val (.int v225_0), .val (.int v230_0), .val (.int v235_0), .val (.int v240_0)] [(.long q2), (.int v215_0), (.ref b1)])) _
      refine XS.iload X212.here hx rfl (hb hby at_98) rfl ?_
      show Steps p.tables e below (T212.setTop (mkF m 100 #[.val (.int p0), .val (.int p1), .val (.long q2), .second, .val (.long q3), .second, .val (.ref b1), .val (.int v215_0), .val (.int v220_0), .val (.int v225_0), .val (.int v230_0), .val (.int v235_0), .val (.int v240_0)] [(.int v220_0), (.long q2), (.int v215_0), (.ref b1)])) _
      refine XS.lload X212.here hx rfl (hb hby at_100) rfl ?_
      show Steps p.tables e below (T212.setTop (mkF m 102 #[.val (.int p0), .val (.int p1), .val (.long q2), .second, .val (.long q3), .second, .val (.ref b1), .val (.int v215_0), .val (.int v220_0), .val (.int v225_0), .val (.int v230_0), .val (.int v235_0), .val (.int v240_0)] [(.long q3), (.int v220_0), (.long q2), (.int v215_0), (.ref b1)])) _
      exact Steps.refl _)
    have Z_245 : n0 ≤ T212.heap.size := (Nat.le_trans Z_211 Kp212.1)
    obtain ⟨cq246, kq246, q246a, q246b, q246c⟩ := isOf hZ rfl Q212_0
    obtain ⟨_, _, ⟨T246, L246, k246, n246⟩, -, X246, ⟨Lc246, hQ246, l246, y246, z246⟩, st246⟩ := X212.virtualBack hx (y := (⟨"com/example/spanfold/spanfold/RangeList", "add", "(ZJZJ)V"⟩ : MethodName)) (z := (⟨"com/example/spanfold/spanfold/RangeList", "add", "(ZJZJ)V"⟩ : MethodName)) hown (mvT hZ (hw _ (List.mem_of_getElem? (i := 17) rfl))) (mvT hZ (hw _ (List.mem_of_getElem? (i := 18) rfl))) (notFace_of_selects (args := #[]) (mvT hZ (hw _ (List.mem_of_getElem? (i := 20) rfl)))) (mvT hZ (hw _ (List.mem_of_getElem? (i := 20) rfl))) (mvT hZ (hw _ (List.mem_of_getElem? (i := 19) rfl))) (by decide) (backOf (W := 0) (rm3n l Z a0 hw [] b1 v215_0 q2 v220_0 q3 b212_b5 b212_b12 b212_b23 k5_212 k12_212 k23_212 (3 : Int32) (List.replicate 3 (.long (0 : Int64))) (List.replicate 3 (.long (0 : Int64))) (List.replicate 3 (.int (0 : Int32))) (0 : Int32) 0 T212.heap n0 Z_245 Q212_0 Q212_4 Q212_7 Q212_10 Q212_1 Q212_2 Q212_5 Q212_8 ne_b1_b212_b5 ne_b1_b212_b12 ne_b1_b212_b23 ne212_14 ne212_15 ne212_16 ge_b1 ge_b212_b5 ge_b212_b12 ge_b212_b23 (by decide) (by decide) (rfl) (Nat.le_of_ble_eq_true rfl) (Nat.le_of_ble_eq_true rfl) (Nat.le_of_ble_eq_true rfl)) hZ (hw _ (List.mem_of_getElem? (i := 21) rfl)) (hw _ (List.mem_of_getElem? (i := 2) rfl)) (by decide) (by decide)) q246a q246c (g := (mkF m 102 #[.val (.int p0), .val (.int p1), .val (.long q2), .second, .val (.long q3), .second, .val (.ref b1), .val (.int v215_0), .val (.int v220_0), .val (.int v225_0), .val (.int v230_0), .val (.int v235_0), .val (.int v240_0)] [(.long q3), (.int v220_0), (.long q2), (.int v215_0), (.ref b1)])) rfl (by rw [hml]; rfl) K244 (argsL := [(.int v215_0), (.long q2), (.int v220_0), (.long q3)]) (rest := []) (lenOf pd_5 rfl) rfl (by show 2 * 0 + _ ≤ _; exact Nat.le_of_eq rfl) (hb hby at_102) (fun _ _ => ⟨rfl, rfl, (by decide : 4 + 0 ≤ _), (by decide : 13 + 0 ≤ _)⟩)
    dsimp only [Pt.U, Pt.locs, Pt.cells, Pt.slots] at X246 l246 y246 z246 st246 hQ246
    subst l246 y246 z246
    obtain ⟨rfl, N246, Kp246, Q246_0, Q246_1, Q246_2, Q246_3, Q246_4, Q246_5, Q246_6, Q246_7⟩ := hQ246
    have Q246_4f : Fld Z T246.heap b1 "com/example/spanfold/spanfold/RangeList" "size" "I" (.int (1 : Int32)) := Q246_4
    have N246' := Fr.app N212' N246
    have K247 : Steps p.tables e below _ (T246.setTop (mkF m 105 #[.val (.int p0), .val (.int p1), .val (.long q2), .second, .val (.long q3), .second, .val (.ref b1), .val (.int v215_0), .val (.int v220_0), .val (.int v225_0), .val (.int v230_0), .val (.int v235_0), .val (.int v240_0)] [])) := st246
    have K248 : Steps p.tables e below _ (T246.setTop (mkF m 114 #[.val (.int p0), .val (.int p1), .val (.long q2), .second, .val (.long q3), .second, .val (.ref b1), .val (.int v215_0), .val (.int v220_0), .val (.int v225_0), .val (.int v230_0), .val (.int v235_0), .val (.int v240_0)] [(.long q2), (.int v230_0), (.long q3), (.int v225_0), (.ref b1)])) := K247.trans (by
      show Steps p.tables e below (T246.setTop (mkF m 105 #[.val (.int p0), .val (.int p1), .val (.long q2), .second, .val (.long q3), .second, .val (.ref b1), .val (.int v215_0), .val (.int v220_0), .val (.int v225_0), .val (.int v230_0), .val (.int v235_0), .val (.int v240_0)] [])) _
      refine XS.aload X246.here hx rfl (hb hby at_105) rfl rfl ?_
      show Steps p.tables e below (T246.setTop (mkF m 107 #[.val (.int p0), .val (.int p1), .val (.long q2), .second, .val (.long q3), .second, .val (.ref b1), .val (.int v215_0), .val (.int v220_0), .val (.int v225_0), .val (.int v230_0), .val (.int v235_0), .val (.int v240_0)] [(.ref b1)])) _
      refine XS.iload X246.here hx rfl (hb hby at_107) rfl ?_
      show Steps p.tables e below (T246.setTop (mkF m 109 #[.val (.int p0), .val (.int p1), .val (.long q2), .second, .val (.long q3), .second, .val (.ref b1), .val (.int v215_0), .val (.int v220_0), .val (.int v225_0), .val (.int v230_0), .val (.int v235_0), .val (.int v240_0)] [(.int v225_0), (.ref b1)])) _
      refine XS.lload X246.here hx rfl (hb hby at_109) rfl ?_
      show Steps p.tables e below (T246.setTop (mkF m 111 #[.val (.int p0), .val (.int p1), .val (.long q2), .second, .val (.long q3), .second, .val (.ref b1), .val (.int v215_0), .val (.int v220_0), .val (.int v225_0), .val (.int v230_0), .val (.int v235_0), .val (.int v240_0)] [(.long q3), (.int v225_0), (.ref b1)])) _
      refine XS.iload X246.here hx rfl (hb hby at_111) rfl ?_
      show Steps p.tables e below (T246.setTop (mkF m 113 #[.val (.int p0), .val (.int p1), .val (.long q2), .second, .val (.long q3), .second, .val (.ref b1), .val (.int v215_0), .val (.int v220_0), .val (.int v225_0), .val (.int v230_0), .val (.int v235_0), .val (.int v240_0)] [(.int v230_0), (.long q3), (.int v225_0), (.ref b1)])) _
      refine XS.lloadN X246.here hx rfl (hb hby at_113) rfl ?_
      show Steps p.tables e below (T246.setTop (mkF m 114 #[.val (.int p0), .val (.int p1), .val (.long q2), .second, .val (.long q3), .second, .val (.ref b1), .val (.int v215_0), .val (.int v220_0), .val (.int v225_0), .val (.int v230_0), .val (.int v235_0), .val (.int v240_0)] [(.long q2), (.int v230_0), (.long q3), (.int v225_0), (.ref b1)])) _
      exact Steps.refl _)
    have Z_249 : n0 ≤ T246.heap.size := (Nat.le_trans Z_245 Kp246.1)
    obtain ⟨cq250, kq250, q250a, q250b, q250c⟩ := isOf hZ rfl Q246_0
    obtain ⟨_, _, ⟨T250, L250, k250, n250⟩, -, X250, ⟨Lc250, hQ250, l250, y250, z250⟩, st250⟩ := X246.virtualBack hx (y := (⟨"com/example/spanfold/spanfold/RangeList", "add", "(ZJZJ)V"⟩ : MethodName)) (z := (⟨"com/example/spanfold/spanfold/RangeList", "add", "(ZJZJ)V"⟩ : MethodName)) hown (mvT hZ (hw _ (List.mem_of_getElem? (i := 17) rfl))) (mvT hZ (hw _ (List.mem_of_getElem? (i := 18) rfl))) (notFace_of_selects (args := #[]) (mvT hZ (hw _ (List.mem_of_getElem? (i := 20) rfl)))) (mvT hZ (hw _ (List.mem_of_getElem? (i := 20) rfl))) (mvT hZ (hw _ (List.mem_of_getElem? (i := 19) rfl))) (by decide) (backOf (W := 0) (rm3n l Z a0 hw [] b1 v225_0 q3 v230_0 q2 b212_b5 b212_b12 b212_b23 k5_212 k12_212 k23_212 (3 : Int32) ((List.replicate 3 (.long (0 : Int64))).set 0 (.long (if v215_0 = (0 : Int32) then (0 : Int64) else q2))) ((List.replicate 3 (.long (0 : Int64))).set 0 (.long (if v220_0 = (0 : Int32) then (0 : Int64) else q3))) ((List.replicate 3 (.int (0 : Int32))).set 0 (.int ((((if v215_0 = (0 : Int32) then (0 : Int32) else (1 : Int32)) ||| (if v220_0 = (0 : Int32) then (0 : Int32) else (2 : Int32))).toInt8.toInt32).toInt8.toInt32))) (1 : Int32) 1 T246.heap n0 Z_249 Q246_0 Q246_1 Q246_2 Q246_3 Q246_4f Q246_5 Q246_6 Q246_7 ne_b1_b212_b5 ne_b1_b212_b12 ne_b1_b212_b23 ne212_14 ne212_15 ne212_16 ge_b1 ge_b212_b5 ge_b212_b12 ge_b212_b23 (by decide) (by decide) (rfl) (Nat.le_of_ble_eq_true rfl) (Nat.le_of_ble_eq_true rfl) (Nat.le_of_ble_eq_true rfl)) hZ (hw _ (List.mem_of_getElem? (i := 21) rfl)) (hw _ (List.mem_of_getElem? (i := 2) rfl)) (by decide) (by decide)) q250a q250c (g := (mkF m 114 #[.val (.int p0), .val (.int p1), .val (.long q2), .second, .val (.long q3), .second, .val (.ref b1), .val (.int v215_0), .val (.int v220_0), .val (.int v225_0), .val (.int v230_0), .val (.int v235_0), .val (.int v240_0)] [(.long q2), (.int v230_0), (.long q3), (.int v225_0), (.ref b1)])) rfl (by rw [hml]; rfl) K248 (argsL := [(.int v225_0), (.long q3), (.int v230_0), (.long q2)]) (rest := []) (lenOf pd_5 rfl) rfl (by show 2 * 0 + _ ≤ _; exact Nat.le_of_eq rfl) (hb hby at_114) (fun _ _ => ⟨rfl, rfl, (by decide : 4 + 0 ≤ _), (by decide : 13 + 0 ≤ _)⟩)
    dsimp only [Pt.U, Pt.locs, Pt.cells, Pt.slots] at X250 l250 y250 z250 st250 hQ250
    subst l250 y250 z250
    obtain ⟨rfl, N250, Kp250, Q250_0, Q250_1, Q250_2, Q250_3, Q250_4, Q250_5, Q250_6, Q250_7⟩ := hQ250
    have Q250_4f : Fld Z T250.heap b1 "com/example/spanfold/spanfold/RangeList" "size" "I" (.int (2 : Int32)) := Q250_4
    have N250' := Fr.app N246' N250
    have K251 : Steps p.tables e below _ (T250.setTop (mkF m 117 #[.val (.int p0), .val (.int p1), .val (.long q2), .second, .val (.long q3), .second, .val (.ref b1), .val (.int v215_0), .val (.int v220_0), .val (.int v225_0), .val (.int v230_0), .val (.int v235_0), .val (.int v240_0)] [])) := st250
    have K252 : Steps p.tables e below _ (T250.setTop (mkF m 128 #[.val (.int p0), .val (.int p1), .val (.long q2), .second, .val (.long q3), .second, .val (.ref b1), .val (.int v215_0), .val (.int v220_0), .val (.int v225_0), .val (.int v230_0), .val (.int v235_0), .val (.int v240_0)] [(.long (q3 - q2)), (.int v240_0), (.long q2), (.int v235_0), (.ref b1)])) := K251.trans (by
      show Steps p.tables e below (T250.setTop (mkF m 117 #[.val (.int p0), .val (.int p1), .val (.long q2), .second, .val (.long q3), .second, .val (.ref b1), .val (.int v215_0), .val (.int v220_0), .val (.int v225_0), .val (.int v230_0), .val (.int v235_0), .val (.int v240_0)] [])) _
      refine XS.aload X250.here hx rfl (hb hby at_117) rfl rfl ?_
      show Steps p.tables e below (T250.setTop (mkF m 119 #[.val (.int p0), .val (.int p1), .val (.long q2), .second, .val (.long q3), .second, .val (.ref b1), .val (.int v215_0), .val (.int v220_0), .val (.int v225_0), .val (.int v230_0), .val (.int v235_0), .val (.int v240_0)] [(.ref b1)])) _
      refine XS.iload X250.here hx rfl (hb hby at_119) rfl ?_
      show Steps p.tables e below (T250.setTop (mkF m 121 #[.val (.int p0), .val (.int p1), .val (.long q2), .second, .val (.long q3), .second, .val (.ref b1), .val (.int v215_0), .val (.int v220_0), .val (.int v225_0), .val (.int v230_0), .val (.int v235_0), .val (.int v240_0)] [(.int v235_0), (.ref b1)])) _
      refine XS.lloadN X250.here hx rfl (hb hby at_121) rfl ?_
      show Steps p.tables e below (T250.setTop (mkF m 122 #[.val (.int p0), .val (.int p1), .val (.long q2), .second, .val (.long q3), .second, .val (.ref b1), .val (.int v215_0), .val (.int v220_0), .val (.int v225_0), .val (.int v230_0), .val (.int v235_0), .val (.int v240_0)] [(.long q2), (.int v235_0), (.ref b1)])) _
      refine XS.iload X250.here hx rfl (hb hby at_122) rfl ?_
      show Steps p.tables e below (T250.setTop (mkF m 124 #[.val (.int p0), .val (.int p1), .val (.long q2), .second, .val (.long q3), .second, .val (.ref b1), .val (.int v215_0), .val (.int v220_0), .val (.int v225_0), .val (.int v230_0), .val (.int v235_0), .val (.int v240_0)] [(.int v240_0), (.long q2), (.int v235_0), (.ref b1)])) _
      refine XS.lload X250.here hx rfl (hb hby at_124) rfl ?_
      show Steps p.tables e below (T250.setTop (mkF m 126 #[.val (.int p0), .val (.int p1), .val (.long q2), .second, .val (.long q3), .second, .val (.ref b1), .val (.int v215_0), .val (.int v220_0), .val (.int v225_0), .val (.int v230_0), .val (.int v235_0), .val (.int v240_0)] [(.long q3), (.int v240_0), (.long q2), (.int v235_0), (.ref b1)])) _
      refine XS.lloadN X250.here hx rfl (hb hby at_126) rfl ?_
      show Steps p.tables e below (T250.setTop (mkF m 127 #[.val (.int p0), .val (.int p1), .val (.long q2), .second, .val (.long q3), .second, .val (.ref b1), .val (.int v215_0), .val (.int v220_0), .val (.int v225_0), .val (.int v230_0), .val (.int v235_0), .val (.int v240_0)] [(.long q2), (.long q3), (.int v240_0), (.long q2), (.int v235_0), (.ref b1)])) _
      refine XS.lsub X250.here hx rfl (hb hby at_127) rfl ?_
      show Steps p.tables e below (T250.setTop (mkF m 128 #[.val (.int p0), .val (.int p1), .val (.long q2), .second, .val (.long q3), .second, .val (.ref b1), .val (.int v215_0), .val (.int v220_0), .val (.int v225_0), .val (.int v230_0), .val (.int v235_0), .val (.int v240_0)] [(.long (q3 - q2)), (.int v240_0), (.long q2), (.int v235_0), (.ref b1)])) _
      exact Steps.refl _)
    have Z_253 : n0 ≤ T250.heap.size := (Nat.le_trans Z_249 Kp250.1)
    obtain ⟨cq254, kq254, q254a, q254b, q254c⟩ := isOf hZ rfl Q250_0
    obtain ⟨_, _, ⟨T254, L254, k254, n254⟩, -, X254, ⟨Lc254, hQ254, l254, y254, z254⟩, st254⟩ := X250.virtualBack hx (y := (⟨"com/example/spanfold/spanfold/RangeList", "add", "(ZJZJ)V"⟩ : MethodName)) (z := (⟨"com/example/spanfold/spanfold/RangeList", "add", "(ZJZJ)V"⟩ : MethodName)) hown (mvT hZ (hw _ (List.mem_of_getElem? (i := 17) rfl))) (mvT hZ (hw _ (List.mem_of_getElem? (i := 18) rfl))) (notFace_of_selects (args := #[]) (mvT hZ (hw _ (List.mem_of_getElem? (i := 20) rfl)))) (mvT hZ (hw _ (List.mem_of_getElem? (i := 20) rfl))) (mvT hZ (hw _ (List.mem_of_getElem? (i := 19) rfl))) (by decide) (backOf (W := 0) (rm3n l Z a0 hw [] b1 v235_0 q2 v240_0 (q3 - q2) b212_b5 b212_b12 b212_b23 k5_212 k12_212 k23_212 (3 : Int32) (((List.replicate 3 (.long (0 : Int64))).set 0 (.long (if v215_0 = (0 : Int32) then (0 : Int64) else q2))).set 1 (.long (if v225_0 = (0 : Int32) then (0 : Int64) else q3))) (((List.replicate 3 (.long (0 : Int64))).set 0 (.long (if v220_0 = (0 : Int32) then (0 : Int64) else q3))).set 1 (.long (if v230_0 = (0 : Int32) then (0 : Int64) else q2))) (((List.replicate 3 (.int (0 : Int32))).set 0 (.int ((((if v215_0 = (0 : Int32) then (0 : Int32) else (1 : Int32)) ||| (if v220_0 = (0 : Int32) then (0 : Int32) else (2 : Int32))).toInt8.toInt32).toInt8.toInt32))).set 1 (.int ((((if v225_0 = (0 : Int32) then (0 : Int32) else (1 : Int32)) ||| (if v230_0 = (0 : Int32) then (0 : Int32) else (2 : Int32))).toInt8.toInt32).toInt8.toInt32))) (2 : Int32) 2 T250.heap n0 Z_253 Q250_0 Q250_1 Q250_2 Q250_3 Q250_4f Q250_5 Q250_6 Q250_7 ne_b1_b212_b5 ne_b1_b212_b12 ne_b1_b212_b23 ne212_14 ne212_15 ne212_16 ge_b1 ge_b212_b5 ge_b212_b12 ge_b212_b23 (by decide) (by decide) (rfl) (Nat.le_of_ble_eq_true rfl) (Nat.le_of_ble_eq_true rfl) (Nat.le_of_ble_eq_true rfl)) hZ (hw _ (List.mem_of_getElem? (i := 21) rfl)) (hw _ (List.mem_of_getElem? (i := 2) rfl)) (by decide) (by decide)) q254a q254c (g := (mkF m 128 #[.val (.int p0), .val (.int p1), .val (.long q2), .second, .val (.long q3), .second, .val (.ref b1), .val (.int v215_0), .val (.int v220_0), .val (.int v225_0), .val (.int v230_0), .val (.int v235_0), .val (.int v240_0)] [(.long (q3 - q2)), (.int v240_0), (.long q2), (.int v235_0), (.ref b1)])) rfl (by rw [hml]; rfl) K252 (argsL := [(.int v235_0), (.long q2), (.int v240_0), (.long (q3 - q2))]) (rest := []) (lenOf pd_5 rfl) rfl (by show 2 * 0 + _ ≤ _; exact Nat.le_of_eq rfl) (hb hby at_128) (fun _ _ => ⟨rfl, rfl, (by decide : 4 + 0 ≤ _), (by decide : 13 + 0 ≤ _)⟩)
    dsimp only [Pt.U, Pt.locs, Pt.cells, Pt.slots] at X254 l254 y254 z254 st254 hQ254
    subst l254 y254 z254
    obtain ⟨rfl, N254, Kp254, Q254_0, Q254_1, Q254_2, Q254_3, Q254_4, Q254_5, Q254_6, Q254_7⟩ := hQ254
    have Q254_4f : Fld Z T254.heap b1 "com/example/spanfold/spanfold/RangeList" "size" "I" (.int (3 : Int32)) := Q254_4
    have N254' := Fr.app N250' N254
    have K255 : Steps p.tables e below _ (T254.setTop (mkF m 131 #[.val (.int p0), .val (.int p1), .val (.long q2), .second, .val (.long q3), .second, .val (.ref b1), .val (.int v215_0), .val (.int v220_0), .val (.int v225_0), .val (.int v230_0), .val (.int v235_0), .val (.int v240_0)] [])) := st254
    have K256 : Steps p.tables e below _ (T254.setTop (mkF m 134 #[.val (.int p0), .val (.int p1), .val (.long q2), .second, .val (.long q3), .second, .val (.ref b1), .val (.int v215_0), .val (.int v220_0), .val (.int v225_0), .val (.int v230_0), .val (.int v235_0), .val (.int v240_0)] [(.int (0 : Int32)), (.ref b1)])) := K255.trans (by
      show Steps p.tables e below (T254.setTop (mkF m 131 #[.val (.int p0), .val (.int p1), .val (.long q2), .second, .val (.long q3), .second, .val (.ref b1), .val (.int v215_0), .val (.int v220_0), .val (.int v225_0), .val (.int v230_0), .val (.int v235_0), .val (.int v240_0)] [])) _
      refine XS.aload X254.here hx rfl (hb hby at_131) rfl rfl ?_
      show Steps p.tables e below (T254.setTop (mkF m 133 #[.val (.int p0), .val (.int p1), .val (.long q2), .second, .val (.long q3), .second, .val (.ref b1), .val (.int v215_0), .val (.int v220_0), .val (.int v225_0), .val (.int v230_0), .val (.int v235_0), .val (.int v240_0)] [(.ref b1)])) _
      refine XS.iconst X254.here hx rfl (hb hby at_133) ?_
      show Steps p.tables e below (T254.setTop (mkF m 134 #[.val (.int p0), .val (.int p1), .val (.long q2), .second, .val (.long q3), .second, .val (.ref b1), .val (.int v215_0), .val (.int v220_0), .val (.int v225_0), .val (.int v230_0), .val (.int v235_0), .val (.int v240_0)] [(.int (0 : Int32)), (.ref b1)])) _
      exact Steps.refl _)
    have Z_257 : n0 ≤ T254.heap.size := (Nat.le_trans Z_253 Kp254.1)
    obtain ⟨cq258, kq258, q258a, q258b, q258c⟩ := isOf hZ rfl Q254_0
    obtain ⟨_, _, ⟨T258, L258, k258, n258⟩, -, X258, ⟨Lc258, hQ258, l258, y258, z258⟩, st258⟩ := X254.virtualBack hx (y := (⟨"com/example/spanfold/spanfold/RangeList", "hasTo", "(I)Z"⟩ : MethodName)) (z := (⟨"com/example/spanfold/spanfold/RangeList", "hasTo", "(I)Z"⟩ : MethodName)) hown (mvT hZ (hw _ (List.mem_of_getElem? (i := 42) rfl))) (mvT hZ (hw _ (List.mem_of_getElem? (i := 43) rfl))) (notFace_of_selects (args := #[]) (mvT hZ (hw _ (List.mem_of_getElem? (i := 45) rfl)))) (mvT hZ (hw _ (List.mem_of_getElem? (i := 45) rfl))) (mvT hZ (hw _ (List.mem_of_getElem? (i := 44) rfl))) (by decide) (backOf (W := 0) (rm8 l Z a0 hw [] b1 (0 : Int32) b212_b23 k23_212 (3 : Int32) ((((List.replicate 3 (.int (0 : Int32))).set 0 (.int ((((if v215_0 = (0 : Int32) then (0 : Int32) else (1 : Int32)) ||| (if v220_0 = (0 : Int32) then (0 : Int32) else (2 : Int32))).toInt8.toInt32).toInt8.toInt32))).set 1 (.int ((((if v225_0 = (0 : Int32) then (0 : Int32) else (1 : Int32)) ||| (if v230_0 = (0 : Int32) then (0 : Int32) else (2 : Int32))).toInt8.toInt32).toInt8.toInt32))).set 2 (.int ((((if v235_0 = (0 : Int32) then (0 : Int32) else (1 : Int32)) ||| (if v240_0 = (0 : Int32) then (0 : Int32) else (2 : Int32))).toInt8.toInt32).toInt8.toInt32))) ((((if v215_0 = (0 : Int32) then (0 : Int32) else (1 : Int32)) ||| (if v220_0 = (0 : Int32) then (0 : Int32) else (2 : Int32))).toInt8.toInt32).toInt8.toInt32) (3 : Int32) T254.heap n0 Z_257 Q254_3 Q254_4f Q254_7 (by decide) (by decide) (by decide) (rfl)) hZ (hw _ (List.mem_of_getElem? (i := 46) rfl)) (hw _ (List.mem_of_getElem? (i := 2) rfl)) (by decide) (by decide)) q258a q258c (g := (mkF m 134 #[.val (.int p0), .val (.int p1), .val (.long q2), .second, .val (.long q3), .second, .val (.ref b1), .val (.int v215_0), .val (.int v220_0), .val (.int v225_0), .val (.int v230_0), .val (.int v235_0), .val (.int v240_0)] [(.int (0 : Int32)), (.ref b1)])) rfl (by rw [hml]; rfl) K256 (argsL := [(.int (0 : Int32))]) (rest := []) (lenOf pd_6 rfl) rfl (by show 2 * 0 + _ ≤ _; exact Nat.le_of_eq rfl) (hb hby at_134) (fun _ _ => ⟨rfl, rfl, (by decide : 4 + 0 ≤ _), (by decide : 13 + 0 ≤ _)⟩)
    dsimp only [Pt.U, Pt.locs, Pt.cells, Pt.slots] at X258 l258 y258 z258 st258 hQ258
    subst l258 y258 z258
    obtain ⟨rfl, N258, eh258⟩ := hQ258
    have N258' := Fr.app N254' N258
    have K260 : Steps p.tables e below _ (T258.setTop (mkF m 137 #[.val (.int p0), .val (.int p1), .val (.long q2), .second, .val (.long q3), .second, .val (.ref b1), .val (.int v215_0), .val (.int v220_0), .val (.int v225_0), .val (.int v230_0), .val (.int v235_0), .val (.int v240_0)] [(.int ((if (((((if v215_0 = (0 : Int32) then (0 : Int32) else (1 : Int32)) ||| (if v220_0 = (0 : Int32) then (0 : Int32) else (2 : Int32))).toInt8.toInt32).toInt8.toInt32) &&& (2 : Int32)) = (0 : Int32) then (0 : Int32) else (1 : Int32)) &&& 1))])) := st258
    obtain ⟨r259, hr259⟩ : ∃ z : Int32, ((if (((((if v215_0 = (0 : Int32) then (0 : Int32) else (1 : Int32)) ||| (if v220_0 = (0 : Int32) then (0 : Int32) else (2 : Int32))).toInt8.toInt32).toInt8.toInt32) &&& (2 : Int32)) = (0 : Int32) then (0 : Int32) else (1 : Int32)) &&& 1) = z := ⟨_, rfl⟩
    rw [hr259] at K260
    have K261 : Steps p.tables e below _ (T258.setTop (mkF m 139 #[.val (.int p0), .val (.int p1), .val (.long q2), .second, .val (.long q3), .second, .val (.ref b1), .val (.int v215_0), .val (.int v220_0), .val (.int v225_0), .val (.int v230_0), .val (.int v235_0), .val (.int v240_0)] [(.int v220_0), (.int r259)])) := K260.trans (by
      show Steps p.tables e below (T258.setTop (mkF m 137 #[.val (.int p0), .val (.int p1), .val (.long q2), .second, .val (.long q3), .second, .val (.ref b1), .val (.int v215_0), .val (.int v220_0), .val (.int v225_0), .val (.int v230_0), .val (.int v235_0), .val (.int v240_0)] [(.int r259)])) _
      refine XS.iload X258.here hx rfl (hb hby at_137) rfl ?_
      show Steps p.tables e below (T258.setTop (mkF m 139 #[.val (.int p0), .val (.int p1), .val (.long q2), .second, .val (.long q3), .second, .val (.ref b1), .val (.int v215_0), .val (.int v220_0), .val (.int v225_0), .val (.int v230_0), .val (.int v235_0), .val (.int v240_0)] [(.int v220_0), (.int r259)])) _
      exact Steps.refl _)
    obtain ⟨T262, L262, v262_0, X262, e262, N262, hv262_0, S262⟩ : ∃ (T262 : State) (L262 : List Loc) (v262_0 : Int32), Stand p l e room_1 s m #[(.int p0), (.int p1), (.long q2), (.long q3)] below meth c T262 L262 4 13 ∧ T262.heap = T254.heap ∧ Fr n0 L262 ∧ (if r259 = v220_0 then (if ((if (((((if v225_0 = (0 : Int32) then (0 : Int32) else (1 : Int32)) ||| (if v230_0 = (0 : Int32) then (0 : Int32) else (2 : Int32))).toInt8.toInt32).toInt8.toInt32) &&& (2 : Int32)) = (0 : Int32) then (0 : Int32) else (1 : Int32)) &&& 1) = v230_0 then (if ((if (((((if v235_0 = (0 : Int32) then (0 : Int32) else (1 : Int32)) ||| (if v240_0 = (0 : Int32) then (0 : Int32) else (2 : Int32))).toInt8.toInt32).toInt8.toInt32) &&& (2 : Int32)) = (0 : Int32) then (0 : Int32) else (1 : Int32)) &&& 1) = v240_0 then (1 : Int32) else (0 : Int32)) else (0 : Int32)) else (0 : Int32)) = v262_0 ∧ Steps p.tables e below (T258.setTop (mkF m 139 #[.val (.int p0), .val (.int p1), .val (.long q2), .second, .val (.long q3), .second, .val (.ref b1), .val (.int v215_0), .val (.int v220_0), .val (.int v225_0), .val (.int v230_0), .val (.int v235_0), .val (.int v240_0)] [(.int v220_0), (.int r259)])) (T262.setTop (mkF m 169 #[.val (.int p0), .val (.int p1), .val (.long q2), .second, .val (.long q3), .second, .val (.ref b1), .val (.int v215_0), .val (.int v220_0), .val (.int v225_0), .val (.int v230_0), .val (.int v235_0), .val (.int v240_0)] [(.int v262_0)])) := by
      have R262 : Steps p.tables e below (T258.setTop (mkF m 139 #[.val (.int p0), .val (.int p1), .val (.long q2), .second, .val (.long q3), .second, .val (.ref b1), .val (.int v215_0), .val (.int v220_0), .val (.int v225_0), .val (.int v230_0), .val (.int v235_0), .val (.int v240_0)] [(.int v220_0), (.int r259)])) (T258.setTop (mkF m 139 #[.val (.int p0), .val (.int p1), .val (.long q2), .second, .val (.long q3), .second, .val (.ref b1), .val (.int v215_0), .val (.int v220_0), .val (.int v225_0), .val (.int v230_0), .val (.int v235_0), .val (.int v240_0)] [(.int v220_0), (.int r259)])) := Steps.refl _
      by_cases hc139 : r259 = v220_0
      · have K263 : Steps p.tables e below _ (T258.setTop (mkF m 145 #[.val (.int p0), .val (.int p1), .val (.long q2), .second, .val (.long q3), .second, .val (.ref b1), .val (.int v215_0), .val (.int v220_0), .val (.int v225_0), .val (.int v230_0), .val (.int v235_0), .val (.int v240_0)] [(.int (1 : Int32)), (.ref b1)])) := R262.trans (by
          show Steps p.tables e below (T258.setTop (mkF m 139 #[.val (.int p0), .val (.int p1), .val (.long q2), .second, .val (.long q3), .second, .val (.ref b1), .val (.int v215_0), .val (.int v220_0), .val (.int v225_0), .val (.int v230_0), .val (.int v235_0), .val (.int v240_0)] [(.int v220_0), (.int r259)])) _
          refine XS.icmpNo X258.here hx rfl (hb hby at_139) rfl (teq hc139).2 ?_
          show Steps p.tables e below (T258.setTop (mkF m 142 #[.val (.int p0), .val (.int p1), .val (.long q2), .second, .val (.long q3), .second, .val (.ref b1), .val (.int v215_0), .val (.int v220_0), .val (.int v225_0), .val (.int v230_0), .val (.int v235_0), .val (.int v240_0)] [])) _
          refine XS.aload X258.here hx rfl (hb hby at_142) rfl rfl ?_
          show Steps p.tables e below (T258.setTop (mkF m 144 #[.val (.int p0), .val (.int p1), .val (.long q2), .second, .val (.long q3), .second, .val (.ref b1), .val (.int v215_0), .val (.int v220_0), .val (.int v225_0), .val (.int v230_0), .val (.int v235_0), .val (.int v240_0)] [(.ref b1)])) _
          refine XS.iconst X258.here hx rfl (hb hby at_144) ?_
          show Steps p.tables e below (T258.setTop (mkF m 145 #[.val (.int p0), .val (.int p1), .val (.long q2), .second, .val (.long q3), .second, .val (.ref b1), .val (.int v215_0), .val (.int v220_0), .val (.int v225_0), .val (.int v230_0), .val (.int v235_0), .val (.int v240_0)] [(.int (1 : Int32)), (.ref b1)])) _
          exact Steps.refl _)
        obtain ⟨cq264, kq264, q264a, q264b, q264c⟩ := isOf hZ eh258 Q254_0
        obtain ⟨_, _, ⟨T264, L264, k264, n264⟩, -, X264, ⟨Lc264, hQ264, l264, y264, z264⟩, st264⟩ := X258.virtualBack hx (y := (⟨"com/example/spanfold/spanfold/RangeList", "hasTo", "(I)Z"⟩ : MethodName)) (z := (⟨"com/example/spanfold/spanfold/RangeList", "hasTo", "(I)Z"⟩ : MethodName)) hown (mvT hZ (hw _ (List.mem_of_getElem? (i := 42) rfl))) (mvT hZ (hw _ (List.mem_of_getElem? (i := 43) rfl))) (notFace_of_selects (args := #[]) (mvT hZ (hw _ (List.mem_of_getElem? (i := 45) rfl)))) (mvT hZ (hw _ (List.mem_of_getElem? (i := 45) rfl))) (mvT hZ (hw _ (List.mem_of_getElem? (i := 44) rfl))) (by decide) (backOf (W := 0) (rm8 l Z a0 hw [] b1 (1 : Int32) b212_b23 k23_212 (3 : Int32) ((((List.replicate 3 (.int (0 : Int32))).set 0 (.int ((((if v215_0 = (0 : Int32) then (0 : Int32) else (1 : Int32)) ||| (if v220_0 = (0 : Int32) then (0 : Int32) else (2 : Int32))).toInt8.toInt32).toInt8.toInt32))).set 1 (.int ((((if v225_0 = (0 : Int32) then (0 : Int32) else (1 : Int32)) ||| (if v230_0 = (0 : Int32) then (0 : Int32) else (2 : Int32))).toInt8.toInt32).toInt8.toInt32))).set 2 (.int ((((if v235_0 = (0 : Int32) then (0 : Int32) else (1 : Int32)) ||| (if v240_0 = (0 : Int32) then (0 : Int32) else (2 : Int32))).toInt8.toInt32).toInt8.toInt32))) ((((if v225_0 = (0 : Int32) then (0 : Int32) else (1 : Int32)) ||| (if v230_0 = (0 : Int32) then (0 : Int32) else (2 : Int32))).toInt8.toInt32).toInt8.toInt32) (3 : Int32) T254.heap n0 Z_257 Q254_3 Q254_4f Q254_7 (by decide) (by decide) (by decide) (rfl)) hZ (hw _ (List.mem_of_getElem? (i := 46) rfl)) (hw _ (List.mem_of_getElem? (i := 2) rfl)) (by decide) (by decide)) q264a q264c (g := (mkF m 145 #[.val (.int p0), .val (.int p1), .val (.long q2), .second, .val (.long q3), .second, .val (.ref b1), .val (.int v215_0), .val (.int v220_0), .val (.int v225_0), .val (.int v230_0), .val (.int v235_0), .val (.int v240_0)] [(.int (1 : Int32)), (.ref b1)])) rfl (by rw [hml]; rfl) K263 (argsL := [(.int (1 : Int32))]) (rest := []) (lenOf pd_6 rfl) rfl (by show 2 * 0 + _ ≤ _; exact Nat.le_of_eq rfl) (hb hby at_145) (fun _ _ => ⟨rfl, eh258, (by decide : 4 + 0 ≤ _), (by decide : 13 + 0 ≤ _)⟩)
        dsimp only [Pt.U, Pt.locs, Pt.cells, Pt.slots] at X264 l264 y264 z264 st264 hQ264
        subst l264 y264 z264
        obtain ⟨rfl, N264, eh264⟩ := hQ264
        have N264' := Fr.app N258' N264
        have K266 : Steps p.tables e below _ (T264.setTop (mkF m 148 #[.val (.int p0), .val (.int p1), .val (.long q2), .second, .val (.long q3), .second, .val (.ref b1), .val (.int v215_0), .val (.int v220_0), .val (.int v225_0), .val (.int v230_0), .val (.int v235_0), .val (.int v240_0)] [(.int ((if (((((if v225_0 = (0 : Int32) then (0 : Int32) else (1 : Int32)) ||| (if v230_0 = (0 : Int32) then (0 : Int32) else (2 : Int32))).toInt8.toInt32).toInt8.toInt32) &&& (2 : Int32)) = (0 : Int32) then (0 : Int32) else (1 : Int32)) &&& 1))])) := st264
        obtain ⟨r265, hr265⟩ : ∃ z : Int32, ((if (((((if v225_0 = (0 : Int32) then (0 : Int32) else (1 : Int32)) ||| (if v230_0 = (0 : Int32) then (0 : Int32) else (2 : Int32))).toInt8.toInt32).toInt8.toInt32) &&& (2 : Int32)) = (0 : Int32) then (0 : Int32) else (1 : Int32)) &&& 1) = z := ⟨_, rfl⟩
        rw [hr265] at K266
        have K267 : Steps p.tables e below _ (T264.setTop (mkF m 150 #[.val (.int p0), .val (.int p1), .val (.long q2), .second, .val (.long q3), .second, .val (.ref b1), .val (.int v215_0), .val (.int v220_0), .val (.int v225_0), .val (.int v230_0), .val (.int v235_0), .val (.int v240_0)] [(.int v230_0), (.int r265)])) := K266.trans (by
          show Steps p.tables e below (T264.setTop (mkF m 148 #[.val (.int p0), .val (.int p1), .val (.long q2), .second, .val (.long q3), .second, .val (.ref b1), .val (.int v215_0), .val (.int v220_0), .val (.int v225_0), .val (.int v230_0), .val (.int v235_0), .val (.int v240_0)] [(.int r265)])) _
          refine XS.iload X264.here hx rfl (hb hby at_148) rfl ?_
          show Steps p.tables e below (T264.setTop (mkF m 150 #[.val (.int p0), .val (.int p1), .val (.long q2), .second, .val (.long q3), .second, .val (.ref b1), .val (.int v215_0), .val (.int v220_0), .val (.int v225_0), .val (.int v230_0), .val (.int v235_0), .val (.int v240_0)] [(.int v230_0), (.int r265)])) _
          exact Steps.refl _)
        by_cases hc150 : r265 = v230_0
        · have K268 : Steps p.tables e below _ (T264.setTop (mkF m 156 #[.val (.int p0), .val (.int p1), .val (.long q2), .second, .val (.long q3), .second, .val (.ref b1), .val (.int v215_0), .val (.int v220_0), .val (.int v225_0), .val (.int v230_0), .val (.int v235_0), .val (.int v240_0)] [(.int (2 : Int32)), (.ref b1)])) := K267.trans (by
            show Steps p.tables e below (T264.setTop (mkF m 150 #[.val (.int p0), .val (.int p1), .val (.long q2), .second, .val (.long q3), .second, .val (.ref b1), .val (.int v215_0), .val (.int v220_0), .val (.int v225_0), .val (.int v230_0), .val (.int v235_0), .val (.int v240_0)] [(.int v230_0), (.int r265)])) _
            refine XS.icmpNo X264.here hx rfl (hb hby at_150) rfl (teq hc150).2 ?_
            show Steps p.tables e below (T264.setTop (mkF m 153 #[.val (.int p0), .val (.int p1), .val (.long q2), .second, .val (.long q3), .second, .val (.ref b1), .val (.int v215_0), .val (.int v220_0), .val (.int v225_0), .val (.int v230_0), .val (.int v235_0), .val (.int v240_0)] [])) _
            refine XS.aload X264.here hx rfl (hb hby at_153) rfl rfl ?_
            show Steps p.tables e below (T264.setTop (mkF m 155 #[.val (.int p0), .val (.int p1), .val (.long q2), .second, .val (.long q3), .second, .val (.ref b1), .val (.int v215_0), .val (.int v220_0), .val (.int v225_0), .val (.int v230_0), .val (.int v235_0), .val (.int v240_0)] [(.ref b1)])) _
            refine XS.iconst X264.here hx rfl (hb hby at_155) ?_
            show Steps p.tables e below (T264.setTop (mkF m 156 #[.val (.int p0), .val (.int p1), .val (.long q2), .second, .val (.long q3), .second, .val (.ref b1), .val (.int v215_0), .val (.int v220_0), .val (.int v225_0), .val (.int v230_0), .val (.int v235_0), .val (.int v240_0)] [(.int (2 : Int32)), (.ref b1)])) _
            exact Steps.refl _)
          obtain ⟨cq269, kq269, q269a, q269b, q269c⟩ := isOf hZ eh264 Q254_0
          obtain ⟨_, _, ⟨T269, L269, k269, n269⟩, -, X269, ⟨Lc269, hQ269, l269, y269, z269⟩, st269⟩ := X264.virtualBack hx (y := (⟨"com/example/spanfold/spanfold/RangeList", "hasTo", "(I)Z"⟩ : MethodName)) (z := (⟨"com/example/spanfold/spanfold/RangeList", "hasTo", "(I)Z"⟩ : MethodName)) hown (mvT hZ (hw _ (List.mem_of_getElem? (i := 42) rfl))) (mvT hZ (hw _ (List.mem_of_getElem? (i := 43) rfl))) (notFace_of_selects (args := #[]) (mvT hZ (hw _ (List.mem_of_getElem? (i := 45) rfl)))) (mvT hZ (hw _ (List.mem_of_getElem? (i := 45) rfl))) (mvT hZ (hw _ (List.mem_of_getElem? (i := 44) rfl))) (by decide) (backOf (W := 0) (rm8 l Z a0 hw [] b1 (2 : Int32) b212_b23 k23_212 (3 : Int32) ((((List.replicate 3 (.int (0 : Int32))).set 0 (.int ((((if v215_0 = (0 : Int32) then (0 : Int32) else (1 : Int32)) ||| (if v220_0 = (0 : Int32) then (0 : Int32) else (2 : Int32))).toInt8.toInt32).toInt8.toInt32))).set 1 (.int ((((if v225_0 = (0 : Int32) then (0 : Int32) else (1 : Int32)) ||| (if v230_0 = (0 : Int32) then (0 : Int32) else (2 : Int32))).toInt8.toInt32).toInt8.toInt32))).set 2 (.int ((((if v235_0 = (0 : Int32) then (0 : Int32) else (1 : Int32)) ||| (if v240_0 = (0 : Int32) then (0 : Int32) else (2 : Int32))).toInt8.toInt32).toInt8.toInt32))) ((((if v235_0 = (0 : Int32) then (0 : Int32) else (1 : Int32)) ||| (if v240_0 = (0 : Int32) then (0 : Int32) else (2 : Int32))).toInt8.toInt32).toInt8.toInt32) (3 : Int32) T254.heap n0 Z_257 Q254_3 Q254_4f Q254_7 (by decide) (by decide) (by decide) (rfl)) hZ (hw _ (List.mem_of_getElem? (i := 46) rfl)) (hw _ (List.mem_of_getElem? (i := 2) rfl)) (by decide) (by decide)) q269a q269c (g := (mkF m 156 #[.val (.int p0), .val (.int p1), .val (.long q2), .second, .val (.long q3), .second, .val (.ref b1), .val (.int v215_0), .val (.int v220_0), .val (.int v225_0), .val (.int v230_0), .val (.int v235_0), .val (.int v240_0)] [(.int (2 : Int32)), (.ref b1)])) rfl (by rw [hml]; rfl) K268 (argsL := [(.int (2 : Int32))]) (rest := []) (lenOf pd_6 rfl) rfl (by show 2 * 0 + _ ≤ _; exact Nat.le_of_eq rfl) (hb hby at_156) (fun _ _ => ⟨rfl, eh264, (by decide : 4 + 0 ≤ _), (by decide : 13 + 0 ≤ _)⟩)
          dsimp only [Pt.U, Pt.locs, Pt.cells, Pt.slots] at X269 l269 y269 z269 st269 hQ269
          subst l269 y269 z269
          obtain ⟨rfl, N269, eh269⟩ := hQ269
          have N269' := Fr.app N264' N269
          have K271 : Steps p.tables e below _ (T269.setTop (mkF m 159 #[.val (.int p0), .val (.int p1), .val (.long q2), .second, .val (.long q3), .second, .val (.ref b1), .val (.int v215_0), .val (.int v220_0), .val (.int v225_0), .val (.int v230_0), .val (.int v235_0), .val (.int v240_0)] [(.int ((if (((((if v235_0 = (0 : Int32) then (0 : Int32) else (1 : Int32)) ||| (if v240_0 = (0 : Int32) then (0 : Int32) else (2 : Int32))).toInt8.toInt32).toInt8.toInt32) &&& (2 : Int32)) = (0 : Int32) then (0 : Int32) else (1 : Int32)) &&& 1))])) := st269
          obtain ⟨r270, hr270⟩ : ∃ z : Int32, ((if (((((if v235_0 = (0 : Int32) then (0 : Int32) else (1 : Int32)) ||| (if v240_0 = (0 : Int32) then (0 : Int32) else (2 : Int32))).toInt8.toInt32).toInt8.toInt32) &&& (2 : Int32)) = (0 : Int32) then (0 : Int32) else (1 : Int32)) &&& 1) = z := ⟨_, rfl⟩
          rw [hr270] at K271
          have K272 : Steps p.tables e below _ (T269.setTop (mkF m 161 #[.val (.int p0), .val (.int p1), .val (.long q2), .second, .val (.long q3), .second, .val (.ref b1), .val (.int v215_0), .val (.int v220_0), .val (.int v225_0), .val (.int v230_0), .val (.int v235_0), .val (.int v240_0)] [(.int v240_0), (.int r270)])) := K271.trans (by
            show Steps p.tables e below (T269.setTop (mkF m 159 #[.val (.int p0), .val (.int p1), .val (.long q2), .second, .val (.long q3), .second, .val (.ref b1), .val (.int v215_0), .val (.int v220_0), .val (.int v225_0), .val (.int v230_0), .val (.int v235_0), .val (.int v240_0)] [(.int r270)])) _
            refine XS.iload X269.here hx rfl (hb hby at_159) rfl ?_
            show Steps p.tables e below (T269.setTop (mkF m 161 #[.val (.int p0), .val (.int p1), .val (.long q2), .second, .val (.long q3), .second, .val (.ref b1), .val (.int v215_0), .val (.int v220_0), .val (.int v225_0), .val (.int v230_0), .val (.int v235_0), .val (.int v240_0)] [(.int v240_0), (.int r270)])) _
            exact Steps.refl _)
          by_cases hc161 : r270 = v240_0
          · have K273 : Steps p.tables e below _ (T269.setTop (mkF m 169 #[.val (.int p0), .val (.int p1), .val (.long q2), .second, .val (.long q3), .second, .val (.ref b1), .val (.int v215_0), .val (.int v220_0), .val (.int v225_0), .val (.int v230_0), .val (.int v235_0), .val (.int v240_0)] [(.int (1 : Int32))])) := K272.trans (by
              show Steps p.tables e below (T269.setTop (mkF m 161 #[.val (.int p0), .val (.int p1), .val (.long q2), .second, .val (.long q3), .second, .val (.ref b1), .val (.int v215_0), .val (.int v220_0), .val (.int v225_0), .val (.int v230_0), .val (.int v235_0), .val (.int v240_0)] [(.int v240_0), (.int r270)])) _
              refine XS.icmpNo X269.here hx rfl (hb hby at_161) rfl (teq hc161).2 ?_
              show Steps p.tables e below (T269.setTop (mkF m 164 #[.val (.int p0), .val (.int p1), .val (.long q2), .second, .val (.long q3), .second, .val (.ref b1), .val (.int v215_0), .val (.int v220_0), .val (.int v225_0), .val (.int v230_0), .val (.int v235_0), .val (.int v240_0)] [])) _
              refine XS.iconst X269.here hx rfl (hb hby at_164) ?_
              show Steps p.tables e below (T269.setTop (mkF m 165 #[.val (.int p0), .val (.int p1), .val (.long q2), .second, .val (.long q3), .second, .val (.ref b1), .val (.int v215_0), .val (.int v220_0), .val (.int v225_0), .val (.int v230_0), .val (.int v235_0), .val (.int v240_0)] [(.int (1 : Int32))])) _
              refine XS.goto X269.here hx rfl (pc0 := 165) (pc' := 169) rfl (hb hby at_165) (by decide) (by decide) ?_
              show Steps p.tables e below (T269.setTop (mkF m 169 #[.val (.int p0), .val (.int p1), .val (.long q2), .second, .val (.long q3), .second, .val (.ref b1), .val (.int v215_0), .val (.int v220_0), .val (.int v225_0), .val (.int v230_0), .val (.int v235_0), .val (.int v240_0)] [(.int (1 : Int32))])) _
              exact Steps.refl _)
            subst hr270
            subst hr265
            exact ⟨T269, _, (1 : Int32), X269, eh269, N269', (by rw [if_pos hc139, if_pos hc150, if_pos hc161]), K273⟩
          · have K274 : Steps p.tables e below _ (T269.setTop (mkF m 169 #[.val (.int p0), .val (.int p1), .val (.long q2), .second, .val (.long q3), .second, .val (.ref b1), .val (.int v215_0), .val (.int v220_0), .val (.int v225_0), .val (.int v230_0), .val (.int v235_0), .val (.int v240_0)] [(.int (0 : Int32))])) := K272.trans (by
              show Steps p.tables e below (T269.setTop (mkF m 161 #[.val (.int p0), .val (.int p1), .val (.long q2), .second, .val (.long q3), .second, .val (.ref b1), .val (.int v215_0), .val (.int v220_0), .val (.int v225_0), .val (.int v230_0), .val (.int v235_0), .val (.int v240_0)] [(.int v240_0), (.int r270)])) _
              refine XS.icmpYes X269.here hx rfl (pc0 := 161) (pc' := 168) rfl (hb hby at_161) rfl (feq hc161).2 (by decide) (by decide) ?_
              show Steps p.tables e below (T269.setTop (mkF m 168 #[.val (.int p0), .val (.int p1), .val (.long q2), .second, .val (.long q3), .second, .val (.ref b1), .val (.int v215_0), .val (.int v220_0), .val (.int v225_0), .val (.int v230_0), .val (.int v235_0), .val (.int v240_0)] [])) _
              refine XS.iconst X269.here hx rfl (hb hby at_168) ?_
              show Steps p.tables e below (T269.setTop (mkF m 169 #[.val (.int p0), .val (.int p1), .val (.long q2), .second, .val (.long q3), .second, .val (.ref b1), .val (.int v215_0), .val (.int v220_0), .val (.int v225_0), .val (.int v230_0), .val (.int v235_0), .val (.int v240_0)] [(.int (0 : Int32))])) _
              exact Steps.refl _)
            subst hr270
            subst hr265
            exact ⟨T269, _, (0 : Int32), X269, eh269, N269', (by rw [if_pos hc139, if_pos hc150, if_neg hc161]), K274⟩
        · have K275 : Steps p.tables e below _ (T264.setTop (mkF m 169 #[.val (.int p0), .val (.int p1), .val (.long q2), .second, .val (.long q3), .second, .val (.ref b1), .val (.int v215_0), .val (.int v220_0), .val (.int v225_0), .val (.int v230_0), .val (.int v235_0), .val (.int v240_0)] [(.int (0 : Int32))])) := K267.trans (by
            show Steps p.tables e below (T264.setTop (mkF m 150 #[.val (.int p0), .val (.int p1), .val (.long q2), .second, .val (.long q3), .second, .val (.ref b1), .val (.int v215_0), .val (.int v220_0), .val (.int v225_0), .val (.int v230_0), .val (.int v235_0), .val (.int v240_0)] [(.int v230_0), (.int r265)])) _
            refine XS.icmpYes X264.here hx rfl (pc0 := 150) (pc' := 168) rfl (hb hby at_150) rfl (feq hc150).2 (by decide) (by decide) ?_
            show Steps p.tables e below (T264.setTop (mkF m 168 #[.val (.int p0), .val (.int p1), .val (.long q2), .second, .val (.long q3), .second, .val (.ref b1), .val (.int v215_0), .val (.int v220_0), .val (.int v225_0), .val (.int v230_0), .val (.int v235_0), .val (.int v240_0)] [])) _
            refine XS.iconst X264.here hx rfl (hb hby at_168) ?_
            show Steps p.tables e below (T264.setTop (mkF m 169 #[.val (.int p0), .val (.int p1), .val (.long q2), .second, .val (.long q3), .second, .val (.ref b1), .val (.int v215_0), .val (.int v220_0), .val (.int v225_0), .val (.int v230_0), .val (.int v235_0), .val (.int v240_0)] [(.int (0 : Int32))])) _
            exact Steps.refl _)
          subst hr265
          exact ⟨T264, _, (0 : Int32), X264, eh264, N264', (by rw [if_pos hc139, if_neg hc150]), K275⟩
      · have K276 : Steps p.tables e below _ (T258.setTop (mkF m 169 #[.val (.int p0), .val (.int p1), .val (.long q2), .second, .val (.long q3), .second, .val (.ref b1), .val (.int v215_0), .val (.int v220_0), .val (.int v225_0), .val (.int v230_0), .val (.int v235_0), .val (.int v240_0)] [(.int (0 : Int32))])) := R262.trans (by
          show Steps p.tables e below (T258.setTop (mkF m 139 #[.val (.int p0), .val (.int p1), .val (.long q2), .second, .val (.long q3), .second, .val (.ref b1), .val (.int v215_0), .val (.int v220_0), .val (.int v225_0), .val (.int v230_0), .val (.int v235_0), .val (.int v240_0)] [(.int v220_0), (.int r259)])) _
          refine XS.icmpYes X258.here hx rfl (pc0 := 139) (pc' := 168) rfl (hb hby at_139) rfl (feq hc139).2 (by decide) (by decide) ?_
          show Steps p.tables e below (T258.setTop (mkF m 168 #[.val (.int p0), .val (.int p1), .val (.long q2), .second, .val (.long q3), .second, .val (.ref b1), .val (.int v215_0), .val (.int v220_0), .val (.int v225_0), .val (.int v230_0), .val (.int v235_0), .val (.int v240_0)] [])) _
          refine XS.iconst X258.here hx rfl (hb hby at_168) ?_
          show Steps p.tables e below (T258.setTop (mkF m 169 #[.val (.int p0), .val (.int p1), .val (.long q2), .second, .val (.long q3), .second, .val (.ref b1), .val (.int v215_0), .val (.int v220_0), .val (.int v225_0), .val (.int v230_0), .val (.int v235_0), .val (.int v240_0)] [(.int (0 : Int32))])) _
          exact Steps.refl _)
        exact ⟨T258, _, (0 : Int32), X258, eh258, N258', (by rw [if_neg hc139]), K276⟩
    have K277 := K261.trans S262
    have hone : (v262_0 &&& 1) = (1 : Int32) := own_law_3 p0 p1 q2 q3 v215_0 v220_0 v225_0 v230_0 v235_0 v240_0 r259 v262_0 hv215_0 hv220_0 hv225_0 hv230_0 hv235_0 hv240_0 hr259 hv262_0
    obtain ⟨fs, hr, hrun, hended, hW, hsame⟩ := X262.leave (v := some (.int (v262_0 &&& 1))) (fun h => by rw [Bd.returns] at h; cases h)
    exact ⟨_, _, K277.trans (retN X262 hx (t := .boolean) Bd.returns (by simp) (hb hby at_169) hr), hrun, hended, _, _, rfl, ⟨by rw [hone], N262⟩, ⟨_, rfl⟩, hW, hsame.mono (by decide) (by decide)⟩
set_option maxRecDepth 65536 in
set_option maxHeartbeats 40000000 in
theorem comes_1 {Post : Tables → Env → Array Value → State → Outcome → State → Prop} (hpost : ∀ tb e args s v u, (limb_1_1.after args s (.returned v) u = true ∧ limb_1_2.after args s (.returned v) u = true ∧ True) → FrameEnd s (.returned v) u (Jvm.fieldLocs frame_1_writes args s ++ Jvm.arrayLocs frame_1_arrays args s ++ Jvm.staticLocs frame_1_statics s) 24 192 → Post tb e args s (.returned v) u) :
    ArmFor flags0 classFile x code maxLocals ret World_1 tables_1 room_1 Calls_1 rest_1 Pre_1 Post := by
  intro l hfl _ _ p e ha hc hk s m args below hf hA hF happ hP
  obtain ⟨hcalls, hrest, hpre⟩ := hP
  obtain ⟨-, -, -, hnamed, -, -, -, hat⟩ := (Spec.applies_iff hf).mp happ
  obtain ⟨hg, hn⟩ := and_e (Cond.before_iff.mp (show (Jvm.Cond.and given_1 narrow_1).before args s = true from hpre))
  obtain ⟨g1, g2⟩ := and_e hg
  obtain ⟨g3, g4⟩ := and_e g2
  obtain ⟨g5, g6⟩ := and_e g4
  obtain ⟨g7, g8⟩ := and_e g6
  obtain ⟨w0, w1, w2, w3, rfl⟩ : ∃ w0 w1 w2 w3 : Value, args = #[w0, w1, w2, w3] := by
    have hs : args.size = 4 := by simpa [Cond.value, given_1] using g1
    obtain ⟨L⟩ := args
    match L, hs with
    | [w0, w1, w2, w3], _ => exact ⟨w0, w1, w2, w3, rfl⟩
  have hw := fun d (hd : d ∈ tables_1) => atoms_spec (ws := Jvm.Cond.code x code maxLocals ret :: tables_1) hat d (List.mem_cons_of_mem _ hd)
  obtain ⟨i0, ei0⟩ := is_v g3
  obtain rfl : w0 = (.int i0) := Option.some.inj ei0
  obtain ⟨i1, ei1⟩ := is_v g5
  obtain rfl : w1 = (.int i1) := Option.some.inj ei1
  obtain ⟨i2, ei2⟩ := isL_v g7
  obtain rfl : w2 = (.long i2) := Option.some.inj ei2
  obtain ⟨i3, ei3⟩ := isL_v g8
  obtain rfl : w3 = (.long i3) := Option.some.inj ei3
  obtain ⟨n, o, h1, h2, h3, _, L, rfl, ⟨rfl, N⟩, hq⟩ := rm0 l s _ hw tables_1 i0 i1 i2 i3 s.heap s.heap.size (Nat.le_refl _) p e ha hc hk s m _ below hf ((Spec.applies_iff_loose hf).mp happ).1 ⟨rfl, State.Warmed39.refl s, rfl⟩ trivial
  refine ⟨n, _, h1, h2, h3, hpost _ _ _ _ _ _ ⟨Cond.after_iff.mpr rfl, Cond.after_iff.mpr (eq_i res_at (Term.int_eval (1)) rfl), trivial⟩ ⟨hq.1, hq.2.1, (hq.2.2.sift fun y hy => Or.inr (N y hy)).mono (by decide) (by decide)⟩⟩
theorem main_1_1 : Claimed_1_1 := comes_1 fun _ _ _ _ _ _ h hF => ⟨h.1, hF⟩
theorem main_1_2 : Claimed_1_2 := comes_1 fun _ _ _ _ _ _ h hF => ⟨h.2.1, hF⟩
end Jvm.Pilot.@@N@@
namespace Jvm.Pilot.@@N@@
open Jvm Jvm.ClassFile Sem Op Lib Jvm.Free Jvm.Stand Jvm.Pilot.@@N@@.Jvm.D
/-! MADE BY PROGRAM (witnessworld.py) out of the Statement's table words and the real class files: 16 classes; the members and pool entries that the words name. The judged class is class 1, her method 1. -/
namespace start1
open Jvm.ClassFile
def u (s : String) : CpInfo := .utf8 (stringToUtf16 s)
/-- a pool by its gaps: so many unusable entries, then the entry; so many at the end -/
def gap : Nat → List CpInfo → List CpInfo
  | 0, r => r
  | n + 1, r => .unusable :: gap n r
def poolList (es : List (Nat × CpInfo)) (last : Nat) : List CpInfo := es.foldr (fun e r => gap e.1 (e.2 :: r)) (gap last [])
def pool (es : List (Nat × CpInfo)) (last : Nat) : Array CpInfo := ⟨poolList es last⟩
def fileOf (pool : Array CpInfo) (this : Nat) (attrs : Array Attribute := #[]) (ms : Array MethodInfo := #[]) (fl : Nat := 33) (sup : Nat := 0) (ifs : Array Nat := #[]) (fds : Array FieldInfo := #[]) : ClassFile where
  minorVersion := 0
  majorVersion := 65
  constantPool := pool
  accessFlags := fl
  thisClass := this
  superClass := sup
  interfaces := ifs
  fields := fds
  methods := ms
  attributes := attrs
def plain (name : String) (sup : Option ClassId) : Class where
  name := name
  kind := .ordinary
  loader := none
  accessFlags := 33
  super := sup
  interfaces := #[]
  cf := none
  fields := #[]
  methods := #[]
  instanceTypes := #[]
  staticTypes := #[]
  resolved := #[]
  callSites := []
  init := .initialized
  statics := none
  mirror := none

def pool0 : Array CpInfo := pool [(5, u "<init>"), (0, u "()V"), (1, .class_ 10), (1, u "java/lang/Object")] 113

def k0c0 : Code := { maxStack := 0, maxLocals := 1, code := object_method_1_code, exceptionTable := #[], attributes := #[] }
def k0m0 : Method := { name := "<init>", desc := "()V", sig := { parameters := [], returnType := none }, accessFlags := 1, code := some k0c0 }
/-- java/lang/Object -/
def k0 : Class := { plain "java/lang/Object" none with
  accessFlags := 33
  interfaces := #[]
  cf := some (fileOf pool0 8 #[] #[{ accessFlags := 1, nameIndex := 5, descriptorIndex := 6, attributes := #[] }] 33 0 #[] #[])
  fields := #[]
  methods := #[k0m0]
  instanceTypes := #[]
  staticTypes := #[]
  resolved := Array.replicate 124 none
  statics := none }

def pool1 : Array CpInfo := pool [(2, .class_ 4), (1, u "java/lang/Object"), (0, u "<init>"), (0, u "()V"), (0, .class_ 8), (0, u "com/example/spanfold/spanfold/RangeList"), (0, .methodref 7 10), (0, .nameAndType 5 11), (0, u "(I)V"), (0, .methodref 7 13), (0, .nameAndType 14 15), (0, u "add"), (0, u "(ZJZJ)V"), (0, .methodref 7 17), (0, .nameAndType 18 19), (0, u "hasTo"), (0, u "(I)Z"), (0, .class_ 21), (0, u "com/example/spanfold/spanfold/RangeListHasToPinLaw"), (2, u "law"), (0, u "(IIJJ)Z")] 3

def k1m0 : Method := { name := "<init>", desc := "()V", sig := { parameters := [], returnType := none }, accessFlags := 1, code := none }
def k1c1 : Code := { maxStack := 9, maxLocals := 13, code := code, exceptionTable := #[], attributes := #[] }
def k1m1 : Method := { name := "law", desc := "(IIJJ)Z", sig := { parameters := [.int, .int, .long, .long], returnType := some .boolean }, accessFlags := 9, code := some k1c1 }
/-- com/example/spanfold/spanfold/RangeListHasToPinLaw -/
def k1 : Class := { plain "com/example/spanfold/spanfold/RangeListHasToPinLaw" (some 0) with
  accessFlags := 49
  interfaces := #[]
  cf := some (fileOf pool1 20 #[] #[{ accessFlags := 1, nameIndex := 5, descriptorIndex := 6, attributes := #[] }, { accessFlags := 9, nameIndex := 24, descriptorIndex := 25, attributes := #[] }] 49 2 #[] #[])
  fields := #[]
  methods := #[k1m0, k1m1]
  instanceTypes := #[]
  staticTypes := #[]
  resolved := Array.replicate 29 none
  statics := none }

def pool2 : Array CpInfo := pool [(1, .methodref 2 3), (0, .class_ 4), (0, .nameAndType 5 6), (0, u "java/lang/Object"), (0, u "<init>"), (0, u "()V"), (0, .fieldref 8 9), (0, .class_ 10), (0, .nameAndType 11 12), (0, u "com/example/spanfold/spanfold/RangeList"), (0, u "froms"), (0, u "[J"), (0, .fieldref 8 14), (0, .nameAndType 15 12), (0, u "tos"), (0, .fieldref 8 17), (0, .nameAndType 18 19), (0, u "ends"), (0, u "[B"), (0, .fieldref 8 21), (0, .nameAndType 22 23), (0, u "size"), (0, u "I"), (0, .methodref 25 26), (0, .class_ 27), (0, .nameAndType 28 29), (0, u "java/util/Objects"), (0, u "checkIndex"), (0, u "(II)I"), (0, .methodref 31 32), (0, .class_ 33), (0, .nameAndType 34 29), (0, u "java/lang/Math"), (0, u "max"), (0, .methodref 36 37), (0, .class_ 38), (0, .nameAndType 39 40), (0, u "java/util/Arrays"), (0, u "copyOf"), (0, u "([JI)[J"), (0, .methodref 36 42), (0, .nameAndType 39 43), (0, u "([BI)[B"), (12, u "hasTo"), (5, u "add"), (0, u "(ZJZJ)V"), (67, u "HAS_FROM"), (0, u "B"), (2, u "HAS_TO"), (1, u "INSERTION_SORT_LIMIT"), (1, u "(I)V"), (3, u "(I)Z")] 34

def k2c0 : Code := { maxStack := 2, maxLocals := 2, code := prog_13_method_1_code, exceptionTable := #[], attributes := #[] }
def k2m0 : Method := { name := "<init>", desc := "(I)V", sig := { parameters := [.int], returnType := none }, accessFlags := 1, code := some k2c0 }
def k2c1 : Code := { maxStack := 3, maxLocals := 2, code := prog_13_method_5_code, exceptionTable := #[], attributes := #[] }
def k2m1 : Method := { name := "hasTo", desc := "(I)Z", sig := { parameters := [.int], returnType := some .boolean }, accessFlags := 1, code := some k2c1 }
def k2c2 : Code := { maxStack := 4, maxLocals := 8, code := prog_13_method_7_code, exceptionTable := #[], attributes := #[] }
def k2m2 : Method := { name := "add", desc := "(ZJZJ)V", sig := { parameters := [.boolean, .long, .boolean, .long], returnType := none }, accessFlags := 0, code := some k2c2 }
/-- com/example/spanfold/spanfold/RangeList -/
def k2 : Class := { plain "com/example/spanfold/spanfold/RangeList" (some 0) with
  accessFlags := 49
  interfaces := #[]
  cf := some (fileOf pool2 8 #[] #[{ accessFlags := 1, nameIndex := 5, descriptorIndex := 139, attributes := #[] }, { accessFlags := 1, nameIndex := 56, descriptorIndex := 143, attributes := #[] }, { accessFlags := 0, nameIndex := 62, descriptorIndex := 63, attributes := #[] }] 49 2 #[] #[{ accessFlags := 26, nameIndex := 131, descriptorIndex := 132, attributes := #[] }, { accessFlags := 26, nameIndex := 135, descriptorIndex := 132, attributes := #[] }, { accessFlags := 26, nameIndex := 137, descriptorIndex := 23, attributes := #[] }, { accessFlags := 2, nameIndex := 11, descriptorIndex := 12, attributes := #[] }, { accessFlags := 2, nameIndex := 15, descriptorIndex := 12, attributes := #[] }, { accessFlags := 2, nameIndex := 18, descriptorIndex := 19, attributes := #[] }, { accessFlags := 2, nameIndex := 22, descriptorIndex := 23, attributes := #[] }])
  fields := #[{ name := "HAS_FROM", type := .byte, accessFlags := 26, slot := 0, constantValue := 0 }, { name := "HAS_TO", type := .byte, accessFlags := 26, slot := 1, constantValue := 0 }, { name := "INSERTION_SORT_LIMIT", type := .int, accessFlags := 26, slot := 2, constantValue := 0 }, { name := "froms", type := (.array .long), accessFlags := 2, slot := 0, constantValue := 0 }, { name := "tos", type := (.array .long), accessFlags := 2, slot := 1, constantValue := 0 }, { name := "ends", type := (.array .byte), accessFlags := 2, slot := 2, constantValue := 0 }, { name := "size", type := .int, accessFlags := 2, slot := 3, constantValue := 0 }]
  methods := #[k2m0, k2m1, k2m2]
  instanceTypes := #[(.array .long), (.array .long), (.array .byte), .int]
  staticTypes := #[.byte, .byte, .int]
  resolved := Array.replicate 178 none
  statics := none }

def pool3 : Array CpInfo := pool [(1, .class_ 2), (0, u "java/lang/Math"), (1, .class_ 6), (1, u "java/lang/Object"), (0, u "<init>"), (0, u "()V"), (89, .class_ 100), (1, u "java/lang/Math$RandomNumberGeneratorHolder"), (71, u "negativeZeroFloatBits"), (0, u "J"), (2, u "negativeZeroDoubleBits"), (21, u "max"), (2, u "min"), (43, u "$assertionsDisabled"), (0, u "Z"), (88, u "(II)I"), (2, u "twoToTheDoubleScaleDown"), (0, u "D"), (4, u "twoToTheDoubleScaleUp"), (9, u "E"), (3, u "PI"), (2, u "TAU"), (2, u "DEGREES_TO_RADIANS"), (0, u "RADIANS_TO_DEGREES")] 94

def k3m0 : Method := { name := "<init>", desc := "()V", sig := { parameters := [], returnType := none }, accessFlags := 2, code := none }
def k3c1 : Code := { maxStack := 2, maxLocals := 2, code := jdk_29_method_65_code, exceptionTable := #[], attributes := #[] }
def k3m1 : Method := { name := "max", desc := "(II)I", sig := { parameters := [.int, .int], returnType := some .int }, accessFlags := 9, code := some k3c1 }
def k3c2 : Code := { maxStack := 2, maxLocals := 2, code := jdk_29_method_69_code, exceptionTable := #[], attributes := #[] }
def k3m2 : Method := { name := "min", desc := "(II)I", sig := { parameters := [.int, .int], returnType := some .int }, accessFlags := 9, code := some k3c2 }
/-- java/lang/Math -/
def k3 : Class := { plain "java/lang/Math" (some 0) with
  accessFlags := 49
  interfaces := #[]
  cf := some (fileOf pool3 1 #[.nestMembers #[98]] #[{ accessFlags := 2, nameIndex := 7, descriptorIndex := 8, attributes := #[] }, { accessFlags := 9, nameIndex := 198, descriptorIndex := 335, attributes := #[] }, { accessFlags := 9, nameIndex := 201, descriptorIndex := 335, attributes := #[] }] 49 4 #[] #[{ accessFlags := 25, nameIndex := 354, descriptorIndex := 339, attributes := #[] }, { accessFlags := 25, nameIndex := 358, descriptorIndex := 339, attributes := #[] }, { accessFlags := 25, nameIndex := 361, descriptorIndex := 339, attributes := #[] }, { accessFlags := 26, nameIndex := 364, descriptorIndex := 339, attributes := #[] }, { accessFlags := 26, nameIndex := 365, descriptorIndex := 339, attributes := #[] }, { accessFlags := 26, nameIndex := 172, descriptorIndex := 173, attributes := #[] }, { accessFlags := 26, nameIndex := 176, descriptorIndex := 173, attributes := #[] }, { accessFlags := 8, nameIndex := 344, descriptorIndex := 339, attributes := #[] }, { accessFlags := 8, nameIndex := 338, descriptorIndex := 339, attributes := #[] }, { accessFlags := 4120, nameIndex := 245, descriptorIndex := 246, attributes := #[] }])
  fields := #[{ name := "E", type := .double, accessFlags := 25, slot := 0, constantValue := 0 }, { name := "PI", type := .double, accessFlags := 25, slot := 1, constantValue := 0 }, { name := "TAU", type := .double, accessFlags := 25, slot := 2, constantValue := 0 }, { name := "DEGREES_TO_RADIANS", type := .double, accessFlags := 26, slot := 3, constantValue := 0 }, { name := "RADIANS_TO_DEGREES", type := .double, accessFlags := 26, slot := 4, constantValue := 0 }, { name := "negativeZeroFloatBits", type := .long, accessFlags := 26, slot := 5, constantValue := 0 }, { name := "negativeZeroDoubleBits", type := .long, accessFlags := 26, slot := 6, constantValue := 0 }, { name := "twoToTheDoubleScaleUp", type := .double, accessFlags := 8, slot := 7, constantValue := 0 }, { name := "twoToTheDoubleScaleDown", type := .double, accessFlags := 8, slot := 8, constantValue := 0 }, { name := "$assertionsDisabled", type := .boolean, accessFlags := 4120, slot := 9, constantValue := 0 }]
  methods := #[k3m0, k3m1, k3m2]
  instanceTypes := #[]
  staticTypes := #[.double, .double, .double, .double, .double, .long, .long, .double, .double, .boolean]
  resolved := Array.replicate 460 none
  statics := none }

def pool4 : Array CpInfo := pool [(2, .class_ 4), (1, u "java/lang/Object"), (0, u "<init>"), (0, u "()V"), (7, .class_ 16), (1, u "java/util/Arrays"), (57, .class_ 76), (1, u "java/util/Arrays$NaturalOrder"), (36, .class_ 115), (1, u "java/util/Arrays$LegacyMergeSort"), (1, u "Z"), (32, .methodref 151 152), (0, .class_ 153), (0, .nameAndType 154 155), (0, u "java/lang/System"), (0, u "arraycopy"), (0, u "(Ljava/lang/Object;ILjava/lang/Object;II)V"), (146, u "copyOf"), (1, .methodref 305 306), (0, .class_ 307), (0, .nameAndType 308 309), (0, u "java/lang/Math"), (0, u "min"), (0, u "(II)I"), (65, .class_ 376), (0, u "java/util/Arrays$ArrayList"), (68, u "$assertionsDisabled"), (269, u "MIN_ARRAY_SORT_GRAN"), (0, u "I"), (2, u "INSERTIONSORT_THRESHOLD"), (149, u "([BI)[B"), (2, u "([JI)[J"), (102, .class_ 976), (0, u "java/util/Arrays$ArrayItr")] 52

def k4m0 : Method := { name := "<init>", desc := "()V", sig := { parameters := [], returnType := none }, accessFlags := 2, code := none }
def k4c1 : Code := { maxStack := 6, maxLocals := 3, code := jdk_65_method_121_code, exceptionTable := #[], attributes := #[] }
def k4m1 : Method := { name := "copyOf", desc := "([BI)[B", sig := { parameters := [(.array .byte), .int], returnType := some (.array .byte) }, accessFlags := 9, code := some k4c1 }
def k4c2 : Code := { maxStack := 6, maxLocals := 3, code := jdk_65_method_124_code, exceptionTable := #[], attributes := #[] }
def k4m2 : Method := { name := "copyOf", desc := "([JI)[J", sig := { parameters := [(.array .long), .int], returnType := some (.array .long) }, accessFlags := 9, code := some k4c2 }
/-- java/util/Arrays -/
def k4 : Class := { plain "java/util/Arrays" (some 0) with
  accessFlags := 49
  interfaces := #[]
  cf := some (fileOf pool4 14 #[.nestMembers #[975, 375, 113, 74]] #[{ accessFlags := 2, nameIndex := 5, descriptorIndex := 6, attributes := #[] }, { accessFlags := 9, nameIndex := 302, descriptorIndex := 869, attributes := #[] }, { accessFlags := 9, nameIndex := 302, descriptorIndex := 872, attributes := #[] }] 49 2 #[] #[{ accessFlags := 26, nameIndex := 715, descriptorIndex := 716, attributes := #[] }, { accessFlags := 26, nameIndex := 719, descriptorIndex := 716, attributes := #[] }, { accessFlags := 4120, nameIndex := 445, descriptorIndex := 117, attributes := #[] }])
  fields := #[{ name := "MIN_ARRAY_SORT_GRAN", type := .int, accessFlags := 26, slot := 0, constantValue := 0 }, { name := "INSERTIONSORT_THRESHOLD", type := .int, accessFlags := 26, slot := 1, constantValue := 0 }, { name := "$assertionsDisabled", type := .boolean, accessFlags := 4120, slot := 2, constantValue := 0 }]
  methods := #[k4m0, k4m1, k4m2]
  instanceTypes := #[]
  staticTypes := #[.int, .int, .boolean]
  resolved := Array.replicate 1029 none
  statics := none }

def pool5 : Array CpInfo := pool [(2, .class_ 4), (1, u "java/lang/Object"), (0, u "<init>"), (0, u "()V"), (1, .class_ 10), (1, u "java/lang/System"), (0, u "allowSecurityManager"), (0, u "I"), (16, u "cons"), (0, u "Ljava/io/Console;"), (77, .class_ 110), (1, u "java/lang/System$CallersHolder"), (43, u "initialErrStream"), (0, u "Ljava/io/PrintStream;"), (19, u "security"), (0, u "Ljava/lang/SecurityManager;"), (31, .class_ 209), (0, u "java/lang/System$1"), (7, u "props"), (0, u "Ljava/util/Properties;"), (2, u "lineSeparator"), (0, u "Ljava/lang/String;"), (96, .class_ 321), (1, u "java/lang/System$LoggerFinder"), (5, .class_ 328), (0, u "java/lang/System$Logger"), (67, u "err"), (2, u "out"), (91, u "notSupportedJnuEncoding"), (15, u "in"), (17, u "initialIn"), (0, u "Ljava/io/InputStream;"), (35, u "bootLayer"), (0, u "Ljava/lang/ModuleLayer;"), (99, .class_ 664), (0, u "java/lang/System$2"), (9, u "NEVER"), (2, u "MAYBE"), (49, u "arraycopy"), (0, u "(Ljava/lang/Object;ILjava/lang/Object;II)V"), (72, .class_ 802), (0, u "java/lang/System$Logger$Level")] 31

def k5m0 : Method := { name := "<init>", desc := "()V", sig := { parameters := [], returnType := none }, accessFlags := 2, code := none }
def k5m1 : Method := { name := "arraycopy", desc := "(Ljava/lang/Object;ILjava/lang/Object;II)V", sig := { parameters := [(.object "java/lang/Object"), .int, (.object "java/lang/Object"), .int, .int], returnType := none }, accessFlags := 265, code := none }
/-- java/lang/System -/
def k5 : Class := { plain "java/lang/System" (some 0) with
  accessFlags := 49
  interfaces := #[]
  cf := some (fileOf pool5 8 #[.nestMembers #[319, 327, 801, 108, 663, 208]] #[{ accessFlags := 2, nameIndex := 5, descriptorIndex := 6, attributes := #[] }, { accessFlags := 265, nameIndex := 727, descriptorIndex := 728, attributes := #[] }] 49 2 #[] #[{ accessFlags := 25, nameIndex := 507, descriptorIndex := 526, attributes := #[] }, { accessFlags := 25, nameIndex := 399, descriptorIndex := 155, attributes := #[] }, { accessFlags := 25, nameIndex := 396, descriptorIndex := 155, attributes := #[] }, { accessFlags := 10, nameIndex := 525, descriptorIndex := 526, attributes := #[] }, { accessFlags := 26, nameIndex := 674, descriptorIndex := 12, attributes := #[] }, { accessFlags := 26, nameIndex := 677, descriptorIndex := 12, attributes := #[] }, { accessFlags := 10, nameIndex := 11, descriptorIndex := 12, attributes := #[] }, { accessFlags := 74, nameIndex := 175, descriptorIndex := 176, attributes := #[] }, { accessFlags := 10, nameIndex := 491, descriptorIndex := 222, attributes := #[] }, { accessFlags := 74, nameIndex := 29, descriptorIndex := 30, attributes := #[] }, { accessFlags := 74, nameIndex := 154, descriptorIndex := 155, attributes := #[] }, { accessFlags := 10, nameIndex := 217, descriptorIndex := 218, attributes := #[] }, { accessFlags := 10, nameIndex := 221, descriptorIndex := 222, attributes := #[] }, { accessFlags := 8, nameIndex := 562, descriptorIndex := 563, attributes := #[] }])
  fields := #[{ name := "in", type := (.object "java/io/InputStream"), accessFlags := 25, slot := 0, constantValue := 0 }, { name := "out", type := (.object "java/io/PrintStream"), accessFlags := 25, slot := 1, constantValue := 0 }, { name := "err", type := (.object "java/io/PrintStream"), accessFlags := 25, slot := 2, constantValue := 0 }, { name := "initialIn", type := (.object "java/io/InputStream"), accessFlags := 10, slot := 3, constantValue := 0 }, { name := "NEVER", type := .int, accessFlags := 26, slot := 4, constantValue := 0 }, { name := "MAYBE", type := .int, accessFlags := 26, slot := 5, constantValue := 0 }, { name := "allowSecurityManager", type := .int, accessFlags := 10, slot := 6, constantValue := 0 }, { name := "security", type := (.object "java/lang/SecurityManager"), accessFlags := 74, slot := 7, constantValue := 0 }, { name := "notSupportedJnuEncoding", type := (.object "java/lang/String"), accessFlags := 10, slot := 8, constantValue := 0 }, { name := "cons", type := (.object "java/io/Console"), accessFlags := 74, slot := 9, constantValue := 0 }, { name := "initialErrStream", type := (.object "java/io/PrintStream"), accessFlags := 74, slot := 10, constantValue := 0 }, { name := "props", type := (.object "java/util/Properties"), accessFlags := 10, slot := 11, constantValue := 0 }, { name := "lineSeparator", type := (.object "java/lang/String"), accessFlags := 10, slot := 12, constantValue := 0 }, { name := "bootLayer", type := (.object "java/lang/ModuleLayer"), accessFlags := 8, slot := 13, constantValue := 0 }]
  methods := #[k5m0, k5m1]
  instanceTypes := #[]
  staticTypes := #[(.object "java/io/InputStream"), (.object "java/io/PrintStream"), (.object "java/io/PrintStream"), (.object "java/io/InputStream"), .int, .int, .int, (.object "java/lang/SecurityManager"), (.object "java/lang/String"), (.object "java/io/Console"), (.object "java/io/PrintStream"), (.object "java/util/Properties"), (.object "java/lang/String"), (.object "java/lang/ModuleLayer")]
  resolved := Array.replicate 834 none
  statics := none }

def pool6 : Array CpInfo := pool [(2, .class_ 4), (1, u "java/lang/Object"), (0, u "<init>"), (0, u "()V"), (35, .class_ 44), (1, u "java/util/Objects"), (60, .methodref 106 107), (0, .class_ 108), (0, .nameAndType 109 110), (0, u "jdk/internal/util/Preconditions"), (0, u "checkIndex"), (0, u "(IILjava/util/function/BiFunction;)I"), (60, u "(II)I")] 12

def k6m0 : Method := { name := "<init>", desc := "()V", sig := { parameters := [], returnType := none }, accessFlags := 2, code := none }
def k6c1 : Code := { maxStack := 3, maxLocals := 2, code := jdk_31_method_17_code, exceptionTable := #[], attributes := #[] }
def k6m1 : Method := { name := "checkIndex", desc := "(II)I", sig := { parameters := [.int, .int], returnType := some .int }, accessFlags := 9, code := some k6c1 }
/-- java/util/Objects -/
def k6 : Class := { plain "java/util/Objects" (some 0) with
  accessFlags := 49
  interfaces := #[]
  cf := some (fileOf pool6 42 #[] #[{ accessFlags := 2, nameIndex := 5, descriptorIndex := 6, attributes := #[] }, { accessFlags := 9, nameIndex := 109, descriptorIndex := 171, attributes := #[] }] 49 2 #[] #[])
  fields := #[]
  methods := #[k6m0, k6m1]
  instanceTypes := #[]
  staticTypes := #[]
  resolved := Array.replicate 184 none
  statics := none }

def pool7 : Array CpInfo := pool [(2, .class_ 4), (1, u "java/lang/Object"), (0, u "<init>"), (0, u "()V"), (17, .class_ 26), (1, u "jdk/internal/util/Preconditions"), (6, u "checkIndex"), (21, .class_ 56), (0, u "jdk/internal/util/Preconditions$4"), (57, .class_ 115), (0, u "jdk/internal/util/Preconditions$1"), (7, u "SIOOBE_FORMATTER"), (0, u "Ljava/util/function/BiFunction;"), (0, .class_ 126), (0, u "jdk/internal/util/Preconditions$2"), (3, u "AIOOBE_FORMATTER"), (0, .class_ 132), (0, u "jdk/internal/util/Preconditions$3"), (3, u "IOOBE_FORMATTER"), (41, u "(IILjava/util/function/BiFunction;)I")] 15

def k7m0 : Method := { name := "<init>", desc := "()V", sig := { parameters := [], returnType := none }, accessFlags := 1, code := none }
def k7c1 : Code := { maxStack := 3, maxLocals := 3, code := jdk_41_method_11_code, exceptionTable := #[], attributes := #[] }
def k7m1 : Method := { name := "checkIndex", desc := "(IILjava/util/function/BiFunction;)I", sig := { parameters := [.int, .int, (.object "java/util/function/BiFunction")], returnType := some .int }, accessFlags := 9, code := some k7c1 }
/-- jdk/internal/util/Preconditions -/
def k7 : Class := { plain "jdk/internal/util/Preconditions" (some 0) with
  accessFlags := 33
  interfaces := #[]
  cf := some (fileOf pool7 24 #[.nestMembers #[55, 131, 125, 114]] #[{ accessFlags := 1, nameIndex := 5, descriptorIndex := 6, attributes := #[] }, { accessFlags := 9, nameIndex := 33, descriptorIndex := 178, attributes := #[] }] 33 2 #[] #[{ accessFlags := 25, nameIndex := 123, descriptorIndex := 124, attributes := #[] }, { accessFlags := 25, nameIndex := 130, descriptorIndex := 124, attributes := #[] }, { accessFlags := 25, nameIndex := 136, descriptorIndex := 124, attributes := #[] }])
  fields := #[{ name := "SIOOBE_FORMATTER", type := (.object "java/util/function/BiFunction"), accessFlags := 25, slot := 0, constantValue := 0 }, { name := "AIOOBE_FORMATTER", type := (.object "java/util/function/BiFunction"), accessFlags := 25, slot := 1, constantValue := 0 }, { name := "IOOBE_FORMATTER", type := (.object "java/util/function/BiFunction"), accessFlags := 25, slot := 2, constantValue := 0 }]
  methods := #[k7m0, k7m1]
  instanceTypes := #[]
  staticTypes := #[(.object "java/util/function/BiFunction"), (.object "java/util/function/BiFunction"), (.object "java/util/function/BiFunction")]
  resolved := Array.replicate 194 none
  statics := none }

def pool8 : Array CpInfo := pool [(1, u "java/lang/Cloneable"), (0, .class_ 1), (0, u "java/lang/Object"), (0, .class_ 3)] 3

/-- java/lang/Cloneable -/
def k8 : Class := { plain "java/lang/Cloneable" (some 0) with
  accessFlags := 1537
  interfaces := #[]
  cf := some (fileOf pool8 2 #[] #[] 1537 4 #[] #[])
  fields := #[]
  methods := #[]
  instanceTypes := #[]
  staticTypes := #[]
  resolved := Array.replicate 8 none
  statics := none }

def pool9 : Array CpInfo := pool [(1, u "java/io/Serializable"), (0, .class_ 1), (0, u "java/lang/Object"), (0, .class_ 3)] 3

/-- java/io/Serializable -/
def k9 : Class := { plain "java/io/Serializable" (some 0) with
  accessFlags := 1537
  interfaces := #[]
  cf := some (fileOf pool9 2 #[] #[] 1537 4 #[] #[])
  fields := #[]
  methods := #[]
  instanceTypes := #[]
  staticTypes := #[]
  resolved := Array.replicate 8 none
  statics := none }

/-- the primitive byte -/
def k10 : Class := { plain "byte" none with kind := .primitive 'B', accessFlags := 0x411 }
/-- [B -/
def k11 : Class := { plain "[B" (some 0) with kind := .array 10 .byte, interfaces := #[8, 9], accessFlags := 1041 }

/-- the primitive int -/
def k12 : Class := { plain "int" none with kind := .primitive 'I', accessFlags := 0x411 }
/-- [I -/
def k13 : Class := { plain "[I" (some 0) with kind := .array 12 .int, interfaces := #[8, 9], accessFlags := 1041 }

/-- the primitive long -/
def k14 : Class := { plain "long" none with kind := .primitive 'J', accessFlags := 0x411 }
/-- [J -/
def k15 : Class := { plain "[J" (some 0) with kind := .array 14 .long, interfaces := #[8, 9], accessFlags := 1041 }

def heap : Heap := #[]
def classes : Array Class := #[k0, k1, k2, k3, k4, k5, k6, k7, k8, k9, k10, k11, k12, k13, k14, k15]
def interned : List (Array UInt16 × Addr) := []
def slotsUsed : Nat := 0
def theMethod : MethodId := ⟨1, 1⟩
def args0 : Array Value := #[.int 5, .int 3, .long 7, .long 9]
def aboutOver (below : List Frame) : State where
  vm := { classes := classes, interned := interned.toArray }
  heap := heap
  slotsUsed := slotsUsed
  threads := #[{ frames := .invoking theMethod args0 :: below }]
def below0 : List Frame := [.native { method := ⟨0, 0⟩, args := #[] }]
def about1 : State := aboutOver below0
def p0 : Program := .bare "" "" ""
def e0 : Env := launch0.env 0 0 0
theorem w_frames : about1.frames = Frame.invoking theMethod args0 :: below0 := rfl
set_option maxRecDepth 65536 in
theorem w_args : argsFit about1.vm theMethod args0 = true := by decide +kernel
set_option maxRecDepth 65536 in
theorem w_heap : heapFits about1 = true := by decide +kernel
set_option maxRecDepth 65536 in
theorem w_runnable : about1.curStatus? = some .runnable := by decide +kernel
set_option maxRecDepth 65536 in
theorem w_alone : about1.alone = true := by decide +kernel
set_option maxRecDepth 65536 in
theorem w_named : about1.methodNamed? x = some theMethod := by decide +kernel
set_option maxRecDepth 65536 in
theorem w_hears : about1.hears theMethod below0 = true := by decide +kernel
set_option maxRecDepth 65536 in
theorem w_ripe : about1.ripe theMethod args0 below0 = true := by decide +kernel
theorem w_running : about1.status = .running := rfl
set_option maxRecDepth 65536 in
theorem w_room : about1.hasRoom e0.platform room_1 = true :=
  launch0.hasRoom_least _ room_1 (by decide +kernel) (by decide +kernel) (by decide +kernel) (by decide +kernel) (by decide +kernel) (by decide +kernel)
theorem allAtoms_all (ts : List Jvm.Cond) (a : Array Jvm.Value) (st : Jvm.State) : (allAtoms ts).before a st = ts.all (fun c => c.before a st) := by
  induction ts with
  | nil => rfl
  | cons c t ih =>
    show (Jvm.Cond.and c (allAtoms t)).before a st = _
    rw [Jvm.Cond.before_and, ih, List.all_cons]
def words1 : List Jvm.Cond := Jvm.Cond.code x code maxLocals ret :: tables_1
/-- a 'code' word, met by the world's own term for the bytes: nothing is compared byte by byte -/
theorem code_word {y : MethodName} {bytes : ByteArray} {mx : Nat} {rt : Option FieldType} {a : Array Value} {s : State} {m : MethodId} {meth : Method} {c : Code} (h1 : s.methodNamed? y = some m) (h2 : s.vm.method? m = some meth) (h3 : meth.code = some c) (h4 : c.code = bytes)
    (h5 : (c.maxLocals == mx && c.exceptionTable.isEmpty && decide (c.maxStack ≤ mostOperands) && decide (meth.sig.returnType = rt) && !meth.locks && decide (parseMethodDescriptor y.desc = some meth.sig)) = true) : (Jvm.Cond.code y bytes mx rt).before a s = true := by
  simp only [Bool.and_eq_true, beq_iff_eq, Bool.not_eq_true', decide_eq_true_eq] at h5
  obtain ⟨⟨⟨⟨⟨g1, g2⟩, g3⟩, g4⟩, g5⟩, g6⟩ := h5
  simp [Cond.before, Cond.holds, Cond.value, h1, h2, h3, h4, g1, g2, g3, g4, g5, g6]
def isCode : Jvm.Cond → Bool
  | .code _ _ _ _ => true
  | _ => false
theorem all_split {L : List Jvm.Cond} {P : Jvm.Cond → Bool} (h1 : L.all (fun c => isCode c || P c) = true) (h2 : ∀ c ∈ L.filter isCode, P c = true) : L.all P = true := by
  refine List.all_eq_true.mpr fun c hc => ?_
  have h := List.all_eq_true.mp h1 c hc
  rcases Bool.eq_false_or_eq_true (isCode c) with hi | hi
  · exact h2 c (List.mem_filter.mpr ⟨hc, hi⟩)
  · simpa [hi] using h
set_option maxRecDepth 65536 in
theorem w_c0 : (Jvm.Cond.code x code maxLocals ret).before args0 about1 = true := code_word (m := ⟨1, 1⟩) (meth := k1m1) (c := k1c1) (by decide +kernel) rfl rfl rfl (by decide +kernel)
set_option maxRecDepth 65536 in
theorem w_c1 : (Jvm.Cond.code ({ cls := "com/example/spanfold/spanfold/RangeList", name := "<init>", desc := "(I)V" } : Jvm.MethodName) prog_13_method_1_code (2 : Nat) (Option.none : Option Jvm.ClassFile.FieldType)).before args0 about1 = true := code_word (m := ⟨2, 0⟩) (meth := k2m0) (c := k2c0) (by decide +kernel) rfl rfl rfl (by decide +kernel)
set_option maxRecDepth 65536 in
theorem w_c2 : (Jvm.Cond.code ({ cls := "java/lang/Object", name := "<init>", desc := "()V" } : Jvm.MethodName) object_method_1_code (1 : Nat) (Option.none : Option Jvm.ClassFile.FieldType)).before args0 about1 = true := code_word (m := ⟨0, 0⟩) (meth := k0m0) (c := k0c0) (by decide +kernel) rfl rfl rfl (by decide +kernel)
set_option maxRecDepth 65536 in
theorem w_c3 : (Jvm.Cond.code ({ cls := "com/example/spanfold/spanfold/RangeList", name := "add", desc := "(ZJZJ)V" } : Jvm.MethodName) prog_13_method_7_code (8 : Nat) (Option.none : Option Jvm.ClassFile.FieldType)).before args0 about1 = true := code_word (m := ⟨2, 2⟩) (meth := k2m2) (c := k2c2) (by decide +kernel) rfl rfl rfl (by decide +kernel)
set_option maxRecDepth 65536 in
theorem w_c4 : (Jvm.Cond.code ({ cls := "java/lang/Math", name := "max", desc := "(II)I" } : Jvm.MethodName) jdk_29_method_65_code (2 : Nat) (Option.some Jvm.ClassFile.FieldType.int)).before args0 about1 = true := code_word (m := ⟨3, 1⟩) (meth := k3m1) (c := k3c1) (by decide +kernel) rfl rfl rfl (by decide +kernel)
set_option maxRecDepth 65536 in
theorem w_c5 : (Jvm.Cond.code ({ cls := "java/util/Arrays", name := "copyOf", desc := "([JI)[J" } : Jvm.MethodName) jdk_65_method_124_code (3 : Nat) (Option.some (Jvm.ClassFile.FieldType.array Jvm.ClassFile.FieldType.long))).before args0 about1 = true := code_word (m := ⟨4, 2⟩) (meth := k4m2) (c := k4c2) (by decide +kernel) rfl rfl rfl (by decide +kernel)
set_option maxRecDepth 65536 in
theorem w_c6 : (Jvm.Cond.code ({ cls := "java/lang/Math", name := "min", desc := "(II)I" } : Jvm.MethodName) jdk_29_method_69_code (2 : Nat) (Option.some Jvm.ClassFile.FieldType.int)).before args0 about1 = true := code_word (m := ⟨3, 2⟩) (meth := k3m2) (c := k3c2) (by decide +kernel) rfl rfl rfl (by decide +kernel)
set_option maxRecDepth 65536 in
theorem w_c7 : (Jvm.Cond.code ({ cls := "java/util/Arrays", name := "copyOf", desc := "([BI)[B" } : Jvm.MethodName) jdk_65_method_121_code (3 : Nat) (Option.some (Jvm.ClassFile.FieldType.array Jvm.ClassFile.FieldType.byte))).before args0 about1 = true := code_word (m := ⟨4, 1⟩) (meth := k4m1) (c := k4c1) (by decide +kernel) rfl rfl rfl (by decide +kernel)
set_option maxRecDepth 65536 in
theorem w_c8 : (Jvm.Cond.code ({ cls := "com/example/spanfold/spanfold/RangeList", name := "hasTo", desc := "(I)Z" } : Jvm.MethodName) prog_13_method_5_code (2 : Nat) (Option.some Jvm.ClassFile.FieldType.boolean)).before args0 about1 = true := code_word (m := ⟨2, 1⟩) (meth := k2m1) (c := k2c1) (by decide +kernel) rfl rfl rfl (by decide +kernel)
set_option maxRecDepth 65536 in
theorem w_c9 : (Jvm.Cond.code ({ cls := "java/util/Objects", name := "checkIndex", desc := "(II)I" } : Jvm.MethodName) jdk_31_method_17_code (2 : Nat) (Option.some Jvm.ClassFile.FieldType.int)).before args0 about1 = true := code_word (m := ⟨6, 1⟩) (meth := k6m1) (c := k6c1) (by decide +kernel) rfl rfl rfl (by decide +kernel)
set_option maxRecDepth 65536 in
theorem w_c10 : (Jvm.Cond.code ({ cls := "jdk/internal/util/Preconditions", name := "checkIndex", desc := "(IILjava/util/function/BiFunction;)I" } : Jvm.MethodName) jdk_41_method_11_code (3 : Nat) (Option.some Jvm.ClassFile.FieldType.int)).before args0 about1 = true := code_word (m := ⟨7, 1⟩) (meth := k7m1) (c := k7c1) (by decide +kernel) rfl rfl rfl (by decide +kernel)
def codes1 : List Jvm.Cond := [Jvm.Cond.code x code maxLocals ret, Jvm.Cond.code ({ cls := "com/example/spanfold/spanfold/RangeList", name := "<init>", desc := "(I)V" } : Jvm.MethodName) prog_13_method_1_code (2 : Nat) (Option.none : Option Jvm.ClassFile.FieldType), Jvm.Cond.code ({ cls := "java/lang/Object", name := "<init>", desc := "()V" } : Jvm.MethodName) object_method_1_code (1 : Nat) (Option.none : Option Jvm.ClassFile.FieldType), Jvm.Cond.code ({ cls := "com/example/spanfold/spanfold/RangeList", name := "add", desc := "(ZJZJ)V" } : Jvm.MethodName) prog_13_method_7_code (8 : Nat) (Option.none : Option Jvm.ClassFile.FieldType), Jvm.Cond.code ({ cls := "java/lang/Math", name := "max", desc := "(II)I" } : Jvm.MethodName) jdk_29_method_65_code (2 : Nat) (Option.some Jvm.ClassFile.FieldType.int), Jvm.Cond.code ({ cls := "java/util/Arrays", name := "copyOf", desc := "([JI)[J" } : Jvm.MethodName) jdk_65_method_124_code (3 : Nat) (Option.some (Jvm.ClassFile.FieldType.array Jvm.ClassFile.FieldType.long)), Jvm.Cond.code ({ cls := "java/lang/Math", name := "min", desc := "(II)I" } : Jvm.MethodName) jdk_29_method_69_code (2 : Nat) (Option.some Jvm.ClassFile.FieldType.int), Jvm.Cond.code ({ cls := "java/util/Arrays", name := "copyOf", desc := "([BI)[B" } : Jvm.MethodName) jdk_65_method_121_code (3 : Nat) (Option.some (Jvm.ClassFile.FieldType.array Jvm.ClassFile.FieldType.byte)), Jvm.Cond.code ({ cls := "com/example/spanfold/spanfold/RangeList", name := "hasTo", desc := "(I)Z" } : Jvm.MethodName) prog_13_method_5_code (2 : Nat) (Option.some Jvm.ClassFile.FieldType.boolean), Jvm.Cond.code ({ cls := "java/util/Objects", name := "checkIndex", desc := "(II)I" } : Jvm.MethodName) jdk_31_method_17_code (2 : Nat) (Option.some Jvm.ClassFile.FieldType.int), Jvm.Cond.code ({ cls := "jdk/internal/util/Preconditions", name := "checkIndex", desc := "(IILjava/util/function/BiFunction;)I" } : Jvm.MethodName) jdk_41_method_11_code (3 : Nat) (Option.some Jvm.ClassFile.FieldType.int)]
set_option maxRecDepth 65536 in
theorem codes_eq : words1.filter isCode = codes1 := rfl
theorem w_codes : ∀ c ∈ words1.filter isCode, c.before args0 about1 = true := by
  rw [codes_eq]
  intro c hc
  simp only [codes1, List.mem_cons, List.not_mem_nil, or_false] at hc
  rcases hc with rfl | rfl | rfl | rfl | rfl | rfl | rfl | rfl | rfl | rfl | rfl
  · exact w_c0
  · exact w_c1
  · exact w_c2
  · exact w_c3
  · exact w_c4
  · exact w_c5
  · exact w_c6
  · exact w_c7
  · exact w_c8
  · exact w_c9
  · exact w_c10
set_option maxRecDepth 65536 in
theorem w_t1 : (words1.take 24).all (fun c => isCode c || c.before args0 about1) = true := by decide +kernel
set_option maxRecDepth 65536 in
theorem w_t2 : ((words1.drop 24).take 24).all (fun c => isCode c || c.before args0 about1) = true := by decide +kernel
set_option maxRecDepth 65536 in
theorem w_t3 : ((words1.drop 24).drop 24).all (fun c => isCode c || c.before args0 about1) = true := by decide +kernel
theorem w_tables : (allAtoms (Jvm.Cond.code x code maxLocals ret :: tables_1)).before args0 about1 = true := by
  rw [allAtoms_all]
  show words1.all (fun c => c.before args0 about1) = true
  refine all_split ?_ w_codes
  rw [← List.take_append_drop 24 words1, List.all_append, w_t1, ← List.take_append_drop 24 (words1.drop 24), List.all_append, w_t2, w_t3]
  rfl
set_option maxRecDepth 65536 in
theorem w_case : (Jvm.Cond.and given_1 narrow_1).before args0 about1 = true := by decide +kernel
theorem w_applies : (headSpec (Jvm.Cond.code x code maxLocals ret :: tables_1) room_1).applies x e0.platform about1 = true :=
  (Spec.applies_iff w_frames).mpr ⟨w_running, w_runnable, w_alone, w_named, w_hears, w_ripe, w_room, w_tables⟩
theorem atStart : AtStart classFile x code maxLocals ret World_1 tables_1 room_1 Calls_1 rest_1 Pre_1 launch0 p0 e0 about1 theMethod args0 below0 :=
  ⟨lists_1, trivial, launch0.admits_env _ _ _, launch0.least_env, fairChoices_fair.cas, fairChoices_fair.clock, w_frames, w_args, w_heap, w_applies, trivial, trivial, w_case⟩
end start1
theorem witness_1 : WitnessClaimed_1 := ⟨start1.p0, start1.e0, start1.about1, start1.theMethod, start1.args0, start1.below0, start1.atStart⟩
end Jvm.Pilot.@@N@@
