import JvmDerived
import JvmDerived.Pilot.@@N@@Statement
import JvmDerived.Pilot.@@N@@Code
set_option linter.unusedVariables false
set_option linter.unusedSimpArgs false
namespace Jvm.Pilot.@@N@@
open Jvm Jvm.ClassFile Sem Op Lib Jvm.Free Jvm.Stand Jvm.LawKit Jvm.RoadKit Bundle Jvm.Pilot.@@N@@.Jvm.D
section OwnArr
variable {p : Program} {l : Launch} {e : Env} {R : Room} {s : State} {m : MethodId} {args : Array Value} {below : List Frame} {meth : Method} {c : Code} {T : State} {locs : List Loc} {cells slots : Nat} {Z : State} {a0 : Array Value} {h : Heap} {a : Addr} {k : ClassId} {z : Int32} {vs : List Value} {dv : Value}
theorem own_ldB (X : Stand p l e R s m args below meth c T locs cells slots) (hx : p.tables.exec = Jvm.exec) (hZ : Z.Warmed39 s.vm) (eT : T.heap = h) (F : Arv Z h a k .byte z vs dv) {j : Int32} (q : ¬ j < 0 ∧ j < z) {v : Value} (u : vs.getD j.toNatClampNeg dv = v) {g : JFrame} (hg : g.method = m) {rest : List Value} (hs : g.stack = .int j :: .ref a :: rest) (hd : decode c.code g.pc = .ok (.baload, 1)) :
    Steps p.tables e below (T.setTop g) (T.setTop { g with pc := g.pc + 1, stack := v :: rest }) := by
  obtain ⟨cl, A, q1, S, N, H, G⟩ := F
  have hin := inb_of S q
  exact X.baloadBytes hx (by rw [eT]; exact A.1) (State.isArrayOf_alike hZ.alike A.2.1) A.2.2 hin (H.at hin u) hg hs hd _ (Steps.refl _)
theorem own_ldI (X : Stand p l e R s m args below meth c T locs cells slots) (hx : p.tables.exec = Jvm.exec) (hZ : Z.Warmed39 s.vm) (eT : T.heap = h) (F : Arv Z h a k .int z vs dv) {j : Int32} (q : ¬ j < 0 ∧ j < z) {v : Value} (u : vs.getD j.toNatClampNeg dv = v) {g : JFrame} (hg : g.method = m) {rest : List Value} (hs : g.stack = .int j :: .ref a :: rest) (hd : decode c.code g.pc = .ok (.iaload, 1)) :
    Steps p.tables e below (T.setTop g) (T.setTop { g with pc := g.pc + 1, stack := v :: rest }) := by
  obtain ⟨cl, A, q1, S, N, H, G⟩ := F
  have hin := inb_of S q
  exact X.iaload hx (by rw [eT]; exact A.1) (State.isArrayOf_alike hZ.alike A.2.1) A.2.2 hin (H.at hin u) hg hs hd _ (Steps.refl _)
theorem own_ldJ (X : Stand p l e R s m args below meth c T locs cells slots) (hx : p.tables.exec = Jvm.exec) (hZ : Z.Warmed39 s.vm) (eT : T.heap = h) (F : Arv Z h a k .long z vs dv) {j : Int32} (q : ¬ j < 0 ∧ j < z) {v : Value} (u : vs.getD j.toNatClampNeg dv = v) {g : JFrame} (hg : g.method = m) {rest : List Value} (hs : g.stack = .int j :: .ref a :: rest) (hd : decode c.code g.pc = .ok (.laload, 1)) :
    Steps p.tables e below (T.setTop g) (T.setTop { g with pc := g.pc + 1, stack := v :: rest }) := by
  obtain ⟨cl, A, q1, S, N, H, G⟩ := F
  have hin := inb_of S q
  exact X.laload hx (by rw [eT]; exact A.1) (State.isArrayOf_alike hZ.alike A.2.1) A.2.2 hin (H.at hin u) hg hs hd _ (Steps.refl _)
theorem own_len {ty : FieldType} (X : Stand p l e R s m args below meth c T locs cells slots) (hx : p.tables.exec = Jvm.exec) (hZ : Z.Warmed39 s.vm) (eT : T.heap = h) (F : Arv Z h a k ty z vs dv) {g : JFrame} (hg : g.method = m) {rest : List Value} (hs : g.stack = .ref a :: rest) (hd : decode c.code g.pc = .ok (.arraylength, 1)) :
    Steps p.tables e below (T.setTop g) (T.setTop { g with pc := g.pc + 1, stack := .int z :: rest }) := by
  obtain ⟨cl, A, q1, S, N, H, G⟩ := F
  have q := X.arraylength hx (by rw [eT]; exact A.1) (State.isArrayOf_alike hZ.alike A.2.1) hg hs hd _ (Steps.refl _)
  rw [len_of S N] at q
  exact q
theorem own_stB (X : Stand p l e R s m args below meth c T locs cells slots) (hx : p.tables.exec = Jvm.exec) (hZ : Z.Warmed39 s.vm) (eT : T.heap = h) (F : Arv Z h a k .byte z vs dv) {j x : Int32} (q : ¬ j < 0 ∧ j < z) (i : Nat) (hj : j.toNatClampNeg = i) (hi : i < vs.length) {g : JFrame} (hg : g.method = m) {rest : List Value} (hs : g.stack = .int x :: .int j :: .ref a :: rest) (hd : decode c.code g.pc = .ok (.bastore, 1)) :
    ∃ T' h', Stand p l e R s m args below meth c T' (locs ++ [⟨a, j.toNatClampNeg⟩]) cells slots ∧ T'.heap = h' ∧ Wr h h' a j.toNatClampNeg (.int (x.toInt8.toInt32)) ∧ Arv Z h' a k .byte z (vs.set i (.int (x.toInt8.toInt32))) dv ∧ Steps p.tables e below (T.setTop g) (T'.setTop { g with pc := g.pc + 1, stack := rest }) := by
  obtain ⟨cl, A, q1, S, N, H, G⟩ := F
  have hin := inb_of S q
  obtain ⟨T', h', X', e', W, st⟩ := stB X hx hZ eT A hin hg hs hd
  exact ⟨T', h', X', e', W, Arv.set A q1 S N H G (fits_nar_byte _) W i hj hi, st _ (Steps.refl _)⟩
theorem own_stI (X : Stand p l e R s m args below meth c T locs cells slots) (hx : p.tables.exec = Jvm.exec) (hZ : Z.Warmed39 s.vm) (eT : T.heap = h) (F : Arv Z h a k .int z vs dv) {j x : Int32} (q : ¬ j < 0 ∧ j < z) (i : Nat) (hj : j.toNatClampNeg = i) (hi : i < vs.length) {g : JFrame} (hg : g.method = m) {rest : List Value} (hs : g.stack = .int x :: .int j :: .ref a :: rest) (hd : decode c.code g.pc = .ok (.iastore, 1)) :
    ∃ T' h', Stand p l e R s m args below meth c T' (locs ++ [⟨a, j.toNatClampNeg⟩]) cells slots ∧ T'.heap = h' ∧ Wr h h' a j.toNatClampNeg (.int x) ∧ Arv Z h' a k .int z (vs.set i (.int x)) dv ∧ Steps p.tables e below (T.setTop g) (T'.setTop { g with pc := g.pc + 1, stack := rest }) := by
  obtain ⟨cl, A, q1, S, N, H, G⟩ := F
  have hin := inb_of S q
  obtain ⟨T', h', X', e', W, st⟩ := stI X hx hZ eT A hin hg hs hd
  exact ⟨T', h', X', e', W, Arv.set A q1 S N H G rfl W i hj hi, st _ (Steps.refl _)⟩
theorem own_stJ (X : Stand p l e R s m args below meth c T locs cells slots) (hx : p.tables.exec = Jvm.exec) (hZ : Z.Warmed39 s.vm) (eT : T.heap = h) (F : Arv Z h a k .long z vs dv) {j : Int32} {x : Int64} (q : ¬ j < 0 ∧ j < z) (i : Nat) (hj : j.toNatClampNeg = i) (hi : i < vs.length) {g : JFrame} (hg : g.method = m) {rest : List Value} (hs : g.stack = .long x :: .int j :: .ref a :: rest) (hd : decode c.code g.pc = .ok (.lastore, 1)) :
    ∃ T' h', Stand p l e R s m args below meth c T' (locs ++ [⟨a, j.toNatClampNeg⟩]) cells slots ∧ T'.heap = h' ∧ Wr h h' a j.toNatClampNeg (.long x) ∧ Arv Z h' a k .long z (vs.set i (.long x)) dv ∧ Steps p.tables e below (T.setTop g) (T'.setTop { g with pc := g.pc + 1, stack := rest }) := by
  obtain ⟨cl, A, q1, S, N, H, G⟩ := F
  have hin := inb_of S q
  obtain ⟨T', h', X', e', W, st⟩ := stJ X hx hZ eT A hin hg hs hd
  exact ⟨T', h', X', e', W, Arv.set A q1 S N H G rfl W i hj hi, st _ (Steps.refl _)⟩
theorem own_newB (X : Stand p l e R s m args below meth c T locs cells slots) (hx : p.tables.exec = Jvm.exec) (hZ : Z.Warmed39 s.vm) (w : (Jvm.Cond.arrayClass .byte).before a0 Z = true) (eT : T.heap = h) {g : JFrame} (hg : g.method = m) (hd : decode c.code g.pc = .ok (.newarray .byte, 2)) {n : Int32} {rest : List Value} (hs : g.stack = .int n :: rest)
    (hn : ¬ n < 0) (N : Nat) (hcap : n.toNatClampNeg ≤ N) (hb : N * 8 ≤ 536870912) (hc : cells + 1 ≤ R.cells) (hl : slots + N ≤ R.slots) :
    ∃ T' h' k x, Stand p l e R s m args below meth c T' locs (cells + 1) (slots + N) ∧ T'.heap = h' ∧ Ext h h' ∧ x = h.size ∧ Arv Z h' x k .byte n (List.replicate N (.int (0 : Int32))) (.int (0 : Int32)) ∧ Exa Z h' x "[B" ∧ Steps p.tables e below (T.setTop g) (T'.setTop { g with pc := g.pc + 2, stack := .ref x :: rest }) := by
  obtain ⟨T', h', k, X', e', E, A, Ex, st⟩ := newPE (aty := .byte) X hx hZ w eT hg hd hs hn hcap hb hc hl (ad := "[B") (by decide)
  exact ⟨T', h', k, _, X', e', E, rfl, (Arv.new A hn).pad (pad_rep [] _ N), Ex, st _ (Steps.refl _)⟩
theorem own_newI (X : Stand p l e R s m args below meth c T locs cells slots) (hx : p.tables.exec = Jvm.exec) (hZ : Z.Warmed39 s.vm) (w : (Jvm.Cond.arrayClass .int).before a0 Z = true) (eT : T.heap = h) {g : JFrame} (hg : g.method = m) (hd : decode c.code g.pc = .ok (.newarray .int, 2)) {n : Int32} {rest : List Value} (hs : g.stack = .int n :: rest)
    (hn : ¬ n < 0) (N : Nat) (hcap : n.toNatClampNeg ≤ N) (hb : N * 8 ≤ 536870912) (hc : cells + 1 ≤ R.cells) (hl : slots + N ≤ R.slots) :
    ∃ T' h' k x, Stand p l e R s m args below meth c T' locs (cells + 1) (slots + N) ∧ T'.heap = h' ∧ Ext h h' ∧ x = h.size ∧ Arv Z h' x k .int n (List.replicate N (.int (0 : Int32))) (.int (0 : Int32)) ∧ Exa Z h' x "[I" ∧ Steps p.tables e below (T.setTop g) (T'.setTop { g with pc := g.pc + 2, stack := .ref x :: rest }) := by
  obtain ⟨T', h', k, X', e', E, A, Ex, st⟩ := newPE (aty := .int) X hx hZ w eT hg hd hs hn hcap hb hc hl (ad := "[I") (by decide)
  exact ⟨T', h', k, _, X', e', E, rfl, (Arv.new A hn).pad (pad_rep [] _ N), Ex, st _ (Steps.refl _)⟩
theorem own_newJ (X : Stand p l e R s m args below meth c T locs cells slots) (hx : p.tables.exec = Jvm.exec) (hZ : Z.Warmed39 s.vm) (w : (Jvm.Cond.arrayClass .long).before a0 Z = true) (eT : T.heap = h) {g : JFrame} (hg : g.method = m) (hd : decode c.code g.pc = .ok (.newarray .long, 2)) {n : Int32} {rest : List Value} (hs : g.stack = .int n :: rest)
    (hn : ¬ n < 0) (N : Nat) (hcap : n.toNatClampNeg ≤ N) (hb : N * 8 ≤ 536870912) (hc : cells + 1 ≤ R.cells) (hl : slots + N ≤ R.slots) :
    ∃ T' h' k x, Stand p l e R s m args below meth c T' locs (cells + 1) (slots + N) ∧ T'.heap = h' ∧ Ext h h' ∧ x = h.size ∧ Arv Z h' x k .long n (List.replicate N (.long (0 : Int64))) (.long (0 : Int64)) ∧ Exa Z h' x "[J" ∧ Steps p.tables e below (T.setTop g) (T'.setTop { g with pc := g.pc + 2, stack := .ref x :: rest }) := by
  obtain ⟨T', h', k, X', e', E, A, Ex, st⟩ := newPE (aty := .long) X hx hZ w eT hg hd hs hn hcap hb hc hl (ad := "[J") (by decide)
  exact ⟨T', h', k, _, X', e', E, rfl, (Arv.new A hn).pad (pad_rep [] _ N), Ex, st _ (Steps.refl _)⟩
end OwnArr
def own_gi : Value → Int32
  | .int x => x
  | _ => 0
def own_by (vs : List Value) (q : Int32) : Int32 := own_gi (vs.getD q.toNatClampNeg (.int (0 : Int32)))
def own_iv (b : Int) (made : Int32) (vc vt : List Value) : Prop := (0 ≤ made.toInt ∧ made.toInt ≤ b) ∧ (vc.length = 16 ∧ vt.length = 16) ∧ (∀ k, vc.getD k (.int (0 : Int32)) = .int (own_gi (vc.getD k (.int (0 : Int32))))) ∧ (∀ k, vt.getD k (.int (0 : Int32)) = .int (own_gi (vt.getD k (.int (0 : Int32)))))
theorem own_lt32 {a b : Int32} : a < b ↔ a.toInt < b.toInt := Int32.lt_iff_toInt_lt
theorem own_eq32 {a b : Int32} : a = b ↔ a.toInt = b.toInt := Int32.toInt_inj.symm
theorem own_nat {a : Int32} (h : 0 ≤ a.toInt) : (a.toNatClampNeg : Int) = a.toInt := by simp only [Int32.toNatClampNeg]; omega
theorem own_z0 : (0 : Int32).toInt = 0 := rfl
theorem own_z1 : (1 : Int32).toInt = 1 := rfl
theorem own_z2 : (2 : Int32).toInt = 2 := rfl
theorem own_z16 : (16 : Int32).toInt = 16 := rfl
theorem own_m16 {made : Int32} {vc vt : List Value} (h : own_iv 1 made vc vt) : ¬ (made = (16 : Int32)) := by
  rw [own_eq32, own_z16]; have := h.1; omega
theorem own_mb {made : Int32} {vc vt : List Value} (h : own_iv 1 made vc vt) : (¬ (made < (0 : Int32))) ∧ made < (16 : Int32) := by
  rw [own_lt32, own_lt32, own_z0, own_z16]; have := h.1; omega
theorem own_mc {made : Int32} {vc vt : List Value} (h : own_iv 1 made vc vt) : made.toNatClampNeg < vc.length := by
  have h1 := h.1; have h2 := own_nat h1.1; rw [h.2.1.1]; omega
theorem own_mt {made : Int32} {vc vt : List Value} (h : own_iv 1 made vc vt) : made.toNatClampNeg < vt.length := by
  have h1 := h.1; have h2 := own_nat h1.1; rw [h.2.1.2]; omega
theorem own_gs (vs : List Value) (i : Nat) (v d : Value) (h : i < vs.length) : (vs.set i v).getD i d = v := by
  simp [List.getD, List.getElem?_set_self h]
theorem own_m3 {made : Int32} {vc vt : List Value} (h : own_iv 2 made vc vt) (h2 : ¬ (made = (2 : Int32))) (h1 : ¬ (made = (1 : Int32))) : made = (0 : Int32) := by
  have := h.1; rw [own_eq32, own_z2] at h2; rw [own_eq32, own_z1] at h1; rw [own_eq32, own_z0]; omega
theorem own_si (vs : List Value) (i : Nat) (x : Int32) (h : ∀ k, vs.getD k (.int (0 : Int32)) = .int (own_gi (vs.getD k (.int (0 : Int32))))) : ∀ k, (vs.set i (.int x)).getD k (.int (0 : Int32)) = .int (own_gi ((vs.set i (.int x)).getD k (.int (0 : Int32)))) := by
  intro k
  by_cases e : i = k
  · subst e
    by_cases l : i < vs.length
    · rw [own_gs _ _ _ _ l]; rfl
    · rw [List.set_eq_of_length_le (by omega)]; exact h i
  · have q : (vs.set i (.int x)).getD k (.int (0 : Int32)) = vs.getD k (.int (0 : Int32)) := by simp [List.getD, List.getElem?_set_ne e]
    rw [q]; exact h k
theorem d1_0 : decode prog_50_method_1_code 0 = .ok (.aload_n 0, 1) := by decide +kernel
theorem d1_1 : decode prog_50_method_1_code 1 = .ok (.invokespecial 1, 3) := by decide +kernel
theorem d1_4 : decode prog_50_method_1_code 4 = .ok (.aload_n 0, 1) := by decide +kernel
theorem d1_5 : decode prog_50_method_1_code 5 = .ok (.bipush 16, 2) := by decide +kernel
theorem d1_7 : decode prog_50_method_1_code 7 = .ok (.newarray .int, 2) := by decide +kernel
theorem d1_9 : decode prog_50_method_1_code 9 = .ok (.putfield 7, 3) := by decide +kernel
theorem d1_12 : decode prog_50_method_1_code 12 = .ok (.aload_n 0, 1) := by decide +kernel
theorem d1_13 : decode prog_50_method_1_code 13 = .ok (.bipush 16, 2) := by decide +kernel
theorem d1_15 : decode prog_50_method_1_code 15 = .ok (.newarray .int, 2) := by decide +kernel
theorem d1_17 : decode prog_50_method_1_code 17 = .ok (.putfield 13, 3) := by decide +kernel
def Q_rm1 (Z : State) (o0 : Addr) (w_made : Int32) (w_rep : Int32) (u3_chosen : Value) (u4_counts : Value) (h0 : Heap) (n0 : Nat) (v : Option Value) (h : Heap) (L : List Loc) : Prop := ∃ b5 : Addr, ∃ b12 : Addr, ∃ k5 : ClassId, ∃ k12 : ClassId, v = none ∧ Fr n0 L ∧ Keep h0 h [o0] ∧ Exa Z h o0 "com/example/futures_from_states/futuresfromstates/model/Choices" ∧ Fld Z h o0 "com/example/futures_from_states/futuresfromstates/model/Choices" "made" "I" (.int w_made) ∧ Fld Z h o0 "com/example/futures_from_states/futuresfromstates/model/Choices" "replayed" "I" (.int w_rep) ∧ Arv Z h b5 k5 .int (16 : Int32) [(.int (0 : Int32)), (.int (0 : Int32)), (.int (0 : Int32)), (.int (0 : Int32)), (.int (0 : Int32)), (.int (0 : Int32)), (.int (0 : Int32)), (.int (0 : Int32)), (.int (0 : Int32)), (.int (0 : Int32)), (.int (0 : Int32)), (.int (0 : Int32)), (.int (0 : Int32)), (.int (0 : Int32)), (.int (0 : Int32)), (.int (0 : Int32))] (.int (0 : Int32)) ∧ Exa Z h b5 "[I" ∧ Fld Z h o0 "com/example/futures_from_states/futuresfromstates/model/Choices" "chosen" "[I" (.ref b5) ∧ Arv Z h b12 k12 .int (16 : Int32) [(.int (0 : Int32)), (.int (0 : Int32)), (.int (0 : Int32)), (.int (0 : Int32)), (.int (0 : Int32)), (.int (0 : Int32)), (.int (0 : Int32)), (.int (0 : Int32)), (.int (0 : Int32)), (.int (0 : Int32)), (.int (0 : Int32)), (.int (0 : Int32)), (.int (0 : Int32)), (.int (0 : Int32)), (.int (0 : Int32)), (.int (0 : Int32))] (.int (0 : Int32)) ∧ Exa Z h b12 "[I" ∧ Fld Z h o0 "com/example/futures_from_states/futuresfromstates/model/Choices" "counts" "[I" (.ref b12) ∧ h0.size ≤ b5 ∧ h0.size ≤ b12 ∧ b5 ≠ b12
theorem pn_1 : plainName "com/example/futures_from_states/futuresfromstates/model/Choices" = true := by first | (simp [plainName, overriddenIn]; done) | decide +kernel
theorem ef_1 (m : MethodId) (x0 : Addr) : entryFrame m #[(.ref x0)] 1 = mkF m 0 #[.val (.ref x0)] [] := by first | (simp [entryFrame, mkF, argsToLocals, Value.category]; done) | rfl
theorem d1_20 : decode prog_50_method_1_code 20 = .ok (.return_, 1) := by decide +kernel
set_option maxRecDepth 65536 in
set_option maxHeartbeats 40000000 in
theorem rm1 (l : Launch) (Z : State) (a0 : Array Value) (hw : ∀ d ∈ tables_1, d.before a0 Z = true) (ws : List Jvm.Cond) (o0 : Addr) (w_made : Int32) (w_rep : Int32) (u3_chosen : Value) (u4_counts : Value) (h0 : Heap) (n0 : Nat) (Z0 : n0 ≤ h0.size) (E_o0 : Exa Z h0 o0 "com/example/futures_from_states/futuresfromstates/model/Choices") (F_made_o0 : Fld Z h0 o0 "com/example/futures_from_states/futuresfromstates/model/Choices" "made" "I" (.int w_made)) (F_replayed_o0 : Fld Z h0 o0 "com/example/futures_from_states/futuresfromstates/model/Choices" "replayed" "I" (.int w_rep)) (g_o0 : n0 ≤ o0) (F_chosen_o0 : Fld Z h0 o0 "com/example/futures_from_states/futuresfromstates/model/Choices" "chosen" "[I" u3_chosen) (F_counts_o0 : Fld Z h0 o0 "com/example/futures_from_states/futuresfromstates/model/Choices" "counts" "[I" u4_counts) :
    MetFree l (⟨"com/example/futures_from_states/futuresfromstates/model/Choices", "<init>", "()V"⟩ : MethodName) (head1 (Jvm.Cond.code (⟨"com/example/futures_from_states/futuresfromstates/model/Choices", "<init>", "()V"⟩ : MethodName) prog_50_method_1_code 1 none :: ws) ({ frames := 1, cells := 2, slots := 32, locals := 12 } : Room)) (fun a U => a = #[(.ref o0)] ∧ Z.Warmed39 U.vm ∧ U.heap = h0) (fun _ _ _ _ _ => True) (fun _ U o U' => ∃ v L, o = .returned v ∧ Q_rm1 Z o0 w_made w_rep u3_chosen u4_counts h0 n0 v U'.heap L ∧ FrameEnd U o U' L ({ frames := 1, cells := 2, slots := 32, locals := 12 } : Room).cells ({ frames := 1, cells := 2, slots := 32, locals := 12 } : Room).slots) := by
  refine MetFree.of_bodySF (plainFor_of_name pn_1) hisR ?_
  intro p e s m args below meth c s₁ Bd hml0 hP hK
  obtain ⟨rfl, hZ, hh⟩ := hP
  have hx := Bd.exec
  have hby := Bd.bytes
  have hml : c.maxLocals = 1 := hml0
  have hown : s.vm.findClass "com/example/futures_from_states/futuresfromstates/model/Choices" = some m.cls := findClass_of_methodNamed Bd.named
  have hnm := (name_of_methodNamed Bd.named Bd.method).1
  have X0 : Stand p l e ({ frames := 1, cells := 2, slots := 32, locals := 12 } : Room) s m #[(.ref o0)] below meth c s₁ [] 0 0 := Stand.of_body Bd
  have e0 : s₁.heap = h0 := by rw [← hh, Bd.state]; rfl
  have N0 := Fr.nil n0
  have Kp0 : Keep h0 h0 [o0] := Keep.refl _ _
  have K0 : Steps p.tables e below (s₁.setTop (entryFrame m #[(.ref o0)] 1)) (s₁.setTop (mkF m 0 #[.val (.ref o0)] [])) := castTop (ef_1 m o0) (Steps.refl _)
  have K1 : Steps p.tables e below _ (s₁.setTop (mkF m 1 #[.val (.ref o0)] [(.ref o0)])) := K0.trans (by
    show Steps p.tables e below (s₁.setTop (mkF m 0 #[.val (.ref o0)] [])) _
    refine XS.aloadN X0.here hx rfl (hb hby d1_0) rfl rfl ?_
    show Steps p.tables e below (s₁.setTop (mkF m 1 #[.val (.ref o0)] [(.ref o0)])) _
    exact Steps.refl _)
  obtain ⟨T2, X2, e2, st2⟩ := initO X0 hx hZ hown (hw _ (List.mem_of_getElem? (i := 6) rfl)) (hw _ (List.mem_of_getElem? (i := 7) rfl)) (hw _ (List.mem_of_getElem? (i := 8) rfl)) e0 (g := (mkF m 1 #[.val (.ref o0)] [(.ref o0)])) rfl (by rw [hml]; rfl) rfl (hb hby d1_1) (by decide) (W := 0) (by show 2 * 0 + _ ≤ _; exact Nat.le_of_eq rfl) (by decide)
  have K3 : Steps p.tables e below _ (T2.setTop (mkF m 4 #[.val (.ref o0)] [])) := K1.trans (st2 _ (Steps.refl _))
  have K4 : Steps p.tables e below _ (T2.setTop (mkF m 7 #[.val (.ref o0)] [(.int (16 : Int32)), (.ref o0)])) := K3.trans (by
    show Steps p.tables e below (T2.setTop (mkF m 4 #[.val (.ref o0)] [])) _
    refine XS.aloadN X2.here hx rfl (hb hby d1_4) rfl rfl ?_
    show Steps p.tables e below (T2.setTop (mkF m 5 #[.val (.ref o0)] [(.ref o0)])) _
    refine XS.bipush X2.here hx rfl (hb hby d1_5) ?_
    show Steps p.tables e below (T2.setTop (mkF m 7 #[.val (.ref o0)] [(.int (16 : Int32)), (.ref o0)])) _
    exact Steps.refl _)
  obtain ⟨T5, h5, k5, b5, X5, e5, E5, g5, V5, A5, st5⟩ := own_newI X2 hx hZ (hw _ (List.mem_of_getElem? (i := 9) rfl)) e2 (g := (mkF m 7 #[.val (.ref o0)] [(.int (16 : Int32)), (.ref o0)])) rfl (hb hby d1_7) rfl (by decide) 16 (by decide) (by decide) (by decide) (by decide)
  have ne_o0_b5 : o0 ≠ b5 := Nat.ne_of_lt (Nat.lt_of_lt_of_le E_o0.lt (Nat.le_of_eq g5.symm))
  have ge_b5 : n0 ≤ b5 := Nat.le_trans Z0 (Nat.le_of_eq g5.symm)
  have sz_b5 : h0.size ≤ b5 := Nat.le_trans Kp0.1 (Nat.le_of_eq g5.symm)
  have K6 : Steps p.tables e below _ (T5.setTop (mkF m 9 #[.val (.ref o0)] [(.ref b5), (.ref o0)])) := K4.trans st5
  have Vn5 : Arv Z h5 b5 k5 .int (16 : Int32) [(.int (0 : Int32)), (.int (0 : Int32)), (.int (0 : Int32)), (.int (0 : Int32)), (.int (0 : Int32)), (.int (0 : Int32)), (.int (0 : Int32)), (.int (0 : Int32)), (.int (0 : Int32)), (.int (0 : Int32)), (.int (0 : Int32)), (.int (0 : Int32)), (.int (0 : Int32)), (.int (0 : Int32)), (.int (0 : Int32)), (.int (0 : Int32))] (.int (0 : Int32)) := V5
  have E_7 : Exa Z h5 o0 "com/example/futures_from_states/futuresfromstates/model/Choices" := (E_o0.ext E5)
  have F_8 : Fld Z h5 o0 "com/example/futures_from_states/futuresfromstates/model/Choices" "chosen" "[I" u3_chosen := (F_chosen_o0.ext E5)
  obtain ⟨T9, h9, X9, e9, W9, st9⟩ := putF X5 hx hZ hown (host := "") (Or.inl (hw _ (List.mem_of_getElem? (i := 10) rfl))) Via.refl e5 F_8 E_7 (Or.inl (hw _ (List.mem_of_getElem? (i := 11) rfl))) (hw _ (List.mem_of_getElem? (i := 1) rfl)) (ty := (.array .int)) (by decide) rfl rfl (g := (mkF m 9 #[.val (.ref o0)] [(.ref b5), (.ref o0)])) rfl rfl (hb hby d1_9)
  have K10 : Steps p.tables e below _ (T9.setTop (mkF m 12 #[.val (.ref o0)] [])) := K6.trans (st9 _ (Steps.refl _))
  have Fw9 : Fld Z h9 o0 "com/example/futures_from_states/futuresfromstates/model/Choices" "chosen" "[I" (.ref b5) := F_8.same W9
  have N9 := Fr.snoc X9 N0 g_o0
  have K11 : Steps p.tables e below _ (T9.setTop (mkF m 15 #[.val (.ref o0)] [(.int (16 : Int32)), (.ref o0)])) := K10.trans (by
    show Steps p.tables e below (T9.setTop (mkF m 12 #[.val (.ref o0)] [])) _
    refine XS.aloadN X9.here hx rfl (hb hby d1_12) rfl rfl ?_
    show Steps p.tables e below (T9.setTop (mkF m 13 #[.val (.ref o0)] [(.ref o0)])) _
    refine XS.bipush X9.here hx rfl (hb hby d1_13) ?_
    show Steps p.tables e below (T9.setTop (mkF m 15 #[.val (.ref o0)] [(.int (16 : Int32)), (.ref o0)])) _
    exact Steps.refl _)
  have Z_13 : n0 ≤ h9.size := (Nat.le_trans (Nat.le_trans Z0 E5.1) (Keep.of_wr W9).1)
  have K_14 : Keep h0 h9 [o0] := ((Kp0.ext E5).wr W9 (Or.inl (List.mem_of_getElem? (i := 0) rfl)))
  obtain ⟨T12, h12, k12, b12, X12, e12, E12, g12, V12, A12, st12⟩ := own_newI X9 hx hZ (hw _ (List.mem_of_getElem? (i := 9) rfl)) e9 (g := (mkF m 15 #[.val (.ref o0)] [(.int (16 : Int32)), (.ref o0)])) rfl (hb hby d1_15) rfl (by decide) 16 (by decide) (by decide) (by decide) (by decide)
  have E_15 : Exa Z h9 o0 "com/example/futures_from_states/futuresfromstates/model/Choices" := (E_7.wr W9)
  have ne_o0_b12 : o0 ≠ b12 := Nat.ne_of_lt (Nat.lt_of_lt_of_le E_15.lt (Nat.le_of_eq g12.symm))
  have V_16 : Arv Z h9 b5 k5 .int (16 : Int32) [(.int (0 : Int32)), (.int (0 : Int32)), (.int (0 : Int32)), (.int (0 : Int32)), (.int (0 : Int32)), (.int (0 : Int32)), (.int (0 : Int32)), (.int (0 : Int32)), (.int (0 : Int32)), (.int (0 : Int32)), (.int (0 : Int32)), (.int (0 : Int32)), (.int (0 : Int32)), (.int (0 : Int32)), (.int (0 : Int32)), (.int (0 : Int32))] (.int (0 : Int32)) := (Vn5.other W9 (Ne.symm ne_o0_b5))
  have ne_b5_b12 : b5 ≠ b12 := Nat.ne_of_lt (Nat.lt_of_lt_of_le V_16.lt (Nat.le_of_eq g12.symm))
  have ge_b12 : n0 ≤ b12 := Nat.le_trans Z_13 (Nat.le_of_eq g12.symm)
  have sz_b12 : h0.size ≤ b12 := Nat.le_trans K_14.1 (Nat.le_of_eq g12.symm)
  have K17 : Steps p.tables e below _ (T12.setTop (mkF m 17 #[.val (.ref o0)] [(.ref b12), (.ref o0)])) := K11.trans st12
  have Vn12 : Arv Z h12 b12 k12 .int (16 : Int32) [(.int (0 : Int32)), (.int (0 : Int32)), (.int (0 : Int32)), (.int (0 : Int32)), (.int (0 : Int32)), (.int (0 : Int32)), (.int (0 : Int32)), (.int (0 : Int32)), (.int (0 : Int32)), (.int (0 : Int32)), (.int (0 : Int32)), (.int (0 : Int32)), (.int (0 : Int32)), (.int (0 : Int32)), (.int (0 : Int32)), (.int (0 : Int32))] (.int (0 : Int32)) := V12
  have E_18 : Exa Z h12 o0 "com/example/futures_from_states/futuresfromstates/model/Choices" := (E_15.ext E12)
  have F_19 : Fld Z h12 o0 "com/example/futures_from_states/futuresfromstates/model/Choices" "counts" "[I" u4_counts := (((F_counts_o0.ext E5).other W9 (Or.inr (slot_ne (Or.inl (hw _ (List.mem_of_getElem? (i := 13) rfl))) (Or.inl (hw _ (List.mem_of_getElem? (i := 11) rfl))) (by decide) (t := (.array .int)) (t' := (.array .int)) (by decide) (by decide)))).ext E12)
  obtain ⟨T20, h20, X20, e20, W20, st20⟩ := putF X12 hx hZ hown (host := "") (Or.inl (hw _ (List.mem_of_getElem? (i := 12) rfl))) Via.refl e12 F_19 E_18 (Or.inl (hw _ (List.mem_of_getElem? (i := 13) rfl))) (hw _ (List.mem_of_getElem? (i := 1) rfl)) (ty := (.array .int)) (by decide) rfl rfl (g := (mkF m 17 #[.val (.ref o0)] [(.ref b12), (.ref o0)])) rfl rfl (hb hby d1_17)
  have K21 : Steps p.tables e below _ (T20.setTop (mkF m 20 #[.val (.ref o0)] [])) := K17.trans (st20 _ (Steps.refl _))
  have Fw20 : Fld Z h20 o0 "com/example/futures_from_states/futuresfromstates/model/Choices" "counts" "[I" (.ref b12) := F_19.same W20
  have N20 := Fr.snoc X20 N9 g_o0
  obtain ⟨fs, hr, hrun, hended, hW, hsame⟩ := X20.leave (v := none) (fun _ => rfl)
  have K_22 : Keep h0 h20 [o0] := ((K_14.ext E12).wr W20 (Or.inl (List.mem_of_getElem? (i := 0) rfl)))
  have E_23 : Exa Z h20 o0 "com/example/futures_from_states/futuresfromstates/model/Choices" := (E_18.wr W20)
  have F_24 : Fld Z h20 o0 "com/example/futures_from_states/futuresfromstates/model/Choices" "made" "I" (.int w_made) := ((((F_made_o0.ext E5).other W9 (Or.inr (slot_ne (Or.inl (hw _ (List.mem_of_getElem? (i := 20) rfl))) (Or.inl (hw _ (List.mem_of_getElem? (i := 11) rfl))) (by decide) (t := .int) (t' := (.array .int)) (by decide) (by decide)))).ext E12).other W20 (Or.inr (slot_ne (Or.inl (hw _ (List.mem_of_getElem? (i := 20) rfl))) (Or.inl (hw _ (List.mem_of_getElem? (i := 13) rfl))) (by decide) (t := .int) (t' := (.array .int)) (by decide) (by decide))))
  have F_25 : Fld Z h20 o0 "com/example/futures_from_states/futuresfromstates/model/Choices" "replayed" "I" (.int w_rep) := ((((F_replayed_o0.ext E5).other W9 (Or.inr (slot_ne (Or.inl (hw _ (List.mem_of_getElem? (i := 22) rfl))) (Or.inl (hw _ (List.mem_of_getElem? (i := 11) rfl))) (by decide) (t := .int) (t' := (.array .int)) (by decide) (by decide)))).ext E12).other W20 (Or.inr (slot_ne (Or.inl (hw _ (List.mem_of_getElem? (i := 22) rfl))) (Or.inl (hw _ (List.mem_of_getElem? (i := 13) rfl))) (by decide) (t := .int) (t' := (.array .int)) (by decide) (by decide))))
  have V_26 : Arv Z h20 b5 k5 .int (16 : Int32) [(.int (0 : Int32)), (.int (0 : Int32)), (.int (0 : Int32)), (.int (0 : Int32)), (.int (0 : Int32)), (.int (0 : Int32)), (.int (0 : Int32)), (.int (0 : Int32)), (.int (0 : Int32)), (.int (0 : Int32)), (.int (0 : Int32)), (.int (0 : Int32)), (.int (0 : Int32)), (.int (0 : Int32)), (.int (0 : Int32)), (.int (0 : Int32))] (.int (0 : Int32)) := ((V_16.ext E12).other W20 (Ne.symm ne_o0_b5))
  have E_27 : Exa Z h20 b5 "[I" := (((A5.wr W9).ext E12).wr W20)
  have F_28 : Fld Z h20 o0 "com/example/futures_from_states/futuresfromstates/model/Choices" "chosen" "[I" (.ref b5) := ((Fw9.ext E12).other W20 (Or.inr (slot_ne (Or.inl (hw _ (List.mem_of_getElem? (i := 11) rfl))) (Or.inl (hw _ (List.mem_of_getElem? (i := 13) rfl))) (by decide) (t := (.array .int)) (t' := (.array .int)) (by decide) (by decide))))
  have V_29 : Arv Z h20 b12 k12 .int (16 : Int32) [(.int (0 : Int32)), (.int (0 : Int32)), (.int (0 : Int32)), (.int (0 : Int32)), (.int (0 : Int32)), (.int (0 : Int32)), (.int (0 : Int32)), (.int (0 : Int32)), (.int (0 : Int32)), (.int (0 : Int32)), (.int (0 : Int32)), (.int (0 : Int32)), (.int (0 : Int32)), (.int (0 : Int32)), (.int (0 : Int32)), (.int (0 : Int32))] (.int (0 : Int32)) := (Vn12.other W20 (Ne.symm ne_o0_b12))
  have E_30 : Exa Z h20 b12 "[I" := (A12.wr W20)
  refine ⟨_, _, K21.trans (X20.returnOut hx Bd.returns (hb hby d1_20) hr), hrun, hended, _, _, rfl, ?_, ⟨_, rfl⟩, hW, hsame.mono (by decide) (by first | decide | omega)⟩
  show Q_rm1 Z o0 w_made w_rep u3_chosen u4_counts h0 n0 _ T20.heap _
  rw [e20]
  exact ⟨b5, b12, k5, k12, rfl, N20, K_22, E_23, F_24, F_25, V_26, E_27, F_28, V_29, E_30, Fw20, sz_b5, sz_b12, ne_b5_b12⟩
theorem d4_0 : decode method_4_code 0 = .ok (.iload_n 0, 1) := by decide +kernel
theorem d4_1 : decode method_4_code 1 = .ok (.iload 5, 2) := by decide +kernel
theorem d4_3 : decode method_4_code 3 = .ok (.irem, 1) := by decide +kernel
theorem d4_4 : decode method_4_code 4 = .ok (.istore 6, 2) := by decide +kernel
theorem d4_6 : decode method_4_code 6 = .ok (.iload 6, 2) := by decide +kernel
theorem d4_8 : decode method_4_code 8 = .ok (.iload_n 3, 1) := by decide +kernel
theorem d4_9 : decode method_4_code 9 = .ok (.if_icmp .ge 13, 3) := by decide +kernel
theorem d4_12 : decode method_4_code 12 = .ok (.iconst 0, 1) := by decide +kernel
theorem d4_13 : decode method_4_code 13 = .ok (.istore 7, 2) := by decide +kernel
theorem d4_15 : decode method_4_code 15 = .ok (.iload 6, 2) := by decide +kernel
theorem d4_17 : decode method_4_code 17 = .ok (.istore 8, 2) := by decide +kernel
theorem d4_19 : decode method_4_code 19 = .ok (.goto 23, 3) := by decide +kernel
theorem d4_22 : decode method_4_code 22 = .ok (.iconst 1, 1) := by decide +kernel
theorem d4_23 : decode method_4_code 23 = .ok (.iload 6, 2) := by decide +kernel
theorem d4_25 : decode method_4_code 25 = .ok (.iload_n 3, 1) := by decide +kernel
theorem d4_26 : decode method_4_code 26 = .ok (.isub, 1) := by decide +kernel
theorem d4_27 : decode method_4_code 27 = .ok (.iload 4, 2) := by decide +kernel
theorem d4_29 : decode method_4_code 29 = .ok (.idiv, 1) := by decide +kernel
theorem d4_30 : decode method_4_code 30 = .ok (.iadd, 1) := by decide +kernel
theorem d4_31 : decode method_4_code 31 = .ok (.istore 7, 2) := by decide +kernel
theorem d4_33 : decode method_4_code 33 = .ok (.iload 6, 2) := by decide +kernel
theorem d4_35 : decode method_4_code 35 = .ok (.iload_n 3, 1) := by decide +kernel
theorem d4_36 : decode method_4_code 36 = .ok (.isub, 1) := by decide +kernel
theorem d4_37 : decode method_4_code 37 = .ok (.iload 4, 2) := by decide +kernel
theorem d4_39 : decode method_4_code 39 = .ok (.irem, 1) := by decide +kernel
theorem d4_40 : decode method_4_code 40 = .ok (.istore 8, 2) := by decide +kernel
theorem d4_42 : decode method_4_code 42 = .ok (.iload_n 1, 1) := by decide +kernel
theorem d4_43 : decode method_4_code 43 = .ok (.iload 7, 2) := by decide +kernel
theorem d4_45 : decode method_4_code 45 = .ok (.if_icmp .ne 13, 3) := by decide +kernel
theorem d4_48 : decode method_4_code 48 = .ok (.iload_n 2, 1) := by decide +kernel
theorem d4_49 : decode method_4_code 49 = .ok (.iload 8, 2) := by decide +kernel
theorem d4_51 : decode method_4_code 51 = .ok (.if_icmp .ne 7, 3) := by decide +kernel
theorem d4_54 : decode method_4_code 54 = .ok (.iconst 1, 1) := by decide +kernel
theorem d4_55 : decode method_4_code 55 = .ok (.goto 4, 3) := by decide +kernel
theorem d4_58 : decode method_4_code 58 = .ok (.iconst 0, 1) := by decide +kernel
def Q_rm4 (Z : State) (p0 : Int32) (p1 : Int32) (p2 : Int32) (p3 : Int32) (p4 : Int32) (p5 : Int32) (h0 : Heap) (n0 : Nat) (v : Option Value) (h : Heap) (L : List Loc) : Prop := v = some (.int ((if p1 = (if (p0 % p5) < p3 then (0 : Int32) else ((1 : Int32) + (((p0 % p5) - p3) / p4))) then (if p2 = (if (p0 % p5) < p3 then (p0 % p5) else (((p0 % p5) - p3) % p4)) then (1 : Int32) else (0 : Int32)) else (0 : Int32)) &&& 1)) ∧ Fr n0 L ∧ h = h0
theorem pn_4 : plainName "com/example/futures_from_states/futuresfromstates/model/ChoicesNextPinLaw" = true := by first | (simp [plainName, overriddenIn]; done) | decide +kernel
theorem ef_4 (m : MethodId) (x0 : Int32) (x1 : Int32) (x2 : Int32) (x3 : Int32) (x4 : Int32) (x5 : Int32) : entryFrame m #[(.int x0), (.int x1), (.int x2), (.int x3), (.int x4), (.int x5)] 9 = mkF m 0 #[.val (.int x0), .val (.int x1), .val (.int x2), .val (.int x3), .val (.int x4), .val (.int x5), .unset, .unset, .unset] [] := by first | (simp [entryFrame, mkF, argsToLocals, Value.category]; done) | rfl
theorem d4_59 : decode method_4_code 59 = .ok (.ireturn, 1) := by decide +kernel
set_option maxRecDepth 65536 in
set_option maxHeartbeats 40000000 in
theorem rm4 (l : Launch) (Z : State) (a0 : Array Value) (hw : ∀ d ∈ tables_1, d.before a0 Z = true) (ws : List Jvm.Cond) (p0 : Int32) (p1 : Int32) (p2 : Int32) (p3 : Int32) (p4 : Int32) (p5 : Int32) (h0 : Heap) (n0 : Nat) (Z0 : n0 ≤ h0.size) (hz5 : p5 ≠ 0) (hz4 : p4 ≠ 0) :
    MetFree l (⟨"com/example/futures_from_states/futuresfromstates/model/ChoicesNextPinLaw", "fits", "(IIIIII)Z"⟩ : MethodName) (head1 (Jvm.Cond.code (⟨"com/example/futures_from_states/futuresfromstates/model/ChoicesNextPinLaw", "fits", "(IIIIII)Z"⟩ : MethodName) method_4_code 9 (some .boolean) :: ws) ({ frames := 0, cells := 0, slots := 0, locals := 0 } : Room)) (fun a U => a = #[(.int p0), (.int p1), (.int p2), (.int p3), (.int p4), (.int p5)] ∧ Z.Warmed39 U.vm ∧ U.heap = h0) (fun _ _ _ _ _ => True) (fun _ U o U' => ∃ v L, o = .returned v ∧ Q_rm4 Z p0 p1 p2 p3 p4 p5 h0 n0 v U'.heap L ∧ FrameEnd U o U' L ({ frames := 0, cells := 0, slots := 0, locals := 0 } : Room).cells ({ frames := 0, cells := 0, slots := 0, locals := 0 } : Room).slots) := by
  refine MetFree.of_bodySF (plainFor_of_name pn_4) hisR ?_
  intro p e s m args below meth c s₁ Bd hml0 hP hK
  obtain ⟨rfl, hZ, hh⟩ := hP
  have hx := Bd.exec
  have hby := Bd.bytes
  have hml : c.maxLocals = 9 := hml0
  have hown : s.vm.findClass "com/example/futures_from_states/futuresfromstates/model/ChoicesNextPinLaw" = some m.cls := findClass_of_methodNamed Bd.named
  have hnm := (name_of_methodNamed Bd.named Bd.method).1
  have X0 : Stand p l e ({ frames := 0, cells := 0, slots := 0, locals := 0 } : Room) s m #[(.int p0), (.int p1), (.int p2), (.int p3), (.int p4), (.int p5)] below meth c s₁ [] 0 0 := Stand.of_body Bd
  have e0 : s₁.heap = h0 := by rw [← hh, Bd.state]; rfl
  have N0 := Fr.nil n0
  have Kp0 : Keep h0 h0 [] := Keep.refl _ _
  have K0 : Steps p.tables e below (s₁.setTop (entryFrame m #[(.int p0), (.int p1), (.int p2), (.int p3), (.int p4), (.int p5)] 9)) (s₁.setTop (mkF m 0 #[.val (.int p0), .val (.int p1), .val (.int p2), .val (.int p3), .val (.int p4), .val (.int p5), .unset, .unset, .unset] [])) := castTop (ef_4 m p0 p1 p2 p3 p4 p5) (Steps.refl _)
  have K1 : Steps p.tables e below _ (s₁.setTop (mkF m 9 #[.val (.int p0), .val (.int p1), .val (.int p2), .val (.int p3), .val (.int p4), .val (.int p5), .val (.int (p0 % p5)), .unset, .unset] [(.int p3), (.int (p0 % p5))])) := K0.trans (by
    show Steps p.tables e below (s₁.setTop (mkF m 0 #[.val (.int p0), .val (.int p1), .val (.int p2), .val (.int p3), .val (.int p4), .val (.int p5), .unset, .unset, .unset] [])) _
    refine XS.iloadN X0.here hx rfl (hb hby d4_0) rfl ?_
    show Steps p.tables e below (s₁.setTop (mkF m 1 #[.val (.int p0), .val (.int p1), .val (.int p2), .val (.int p3), .val (.int p4), .val (.int p5), .unset, .unset, .unset] [(.int p0)])) _
    refine XS.iload X0.here hx rfl (hb hby d4_1) rfl ?_
    show Steps p.tables e below (s₁.setTop (mkF m 3 #[.val (.int p0), .val (.int p1), .val (.int p2), .val (.int p3), .val (.int p4), .val (.int p5), .unset, .unset, .unset] [(.int p5), (.int p0)])) _
    refine iremM X0 hx rfl (hb hby d4_3) rfl hz5 ?_
    show Steps p.tables e below (s₁.setTop (mkF m 4 #[.val (.int p0), .val (.int p1), .val (.int p2), .val (.int p3), .val (.int p4), .val (.int p5), .unset, .unset, .unset] [(.int (p0 % p5))])) _
    refine XS.istore X0.here hx rfl (hb hby d4_4) rfl (l' := #[.val (.int p0), .val (.int p1), .val (.int p2), .val (.int p3), .val (.int p4), .val (.int p5), .val (.int (p0 % p5)), .unset, .unset]) rfl ?_
    show Steps p.tables e below (s₁.setTop (mkF m 6 #[.val (.int p0), .val (.int p1), .val (.int p2), .val (.int p3), .val (.int p4), .val (.int p5), .val (.int (p0 % p5)), .unset, .unset] [])) _
    refine XS.iload X0.here hx rfl (hb hby d4_6) rfl ?_
    show Steps p.tables e below (s₁.setTop (mkF m 8 #[.val (.int p0), .val (.int p1), .val (.int p2), .val (.int p3), .val (.int p4), .val (.int p5), .val (.int (p0 % p5)), .unset, .unset] [(.int (p0 % p5))])) _
    refine XS.iloadN X0.here hx rfl (hb hby d4_8) rfl ?_
    show Steps p.tables e below (s₁.setTop (mkF m 9 #[.val (.int p0), .val (.int p1), .val (.int p2), .val (.int p3), .val (.int p4), .val (.int p5), .val (.int (p0 % p5)), .unset, .unset] [(.int p3), (.int (p0 % p5))])) _
    exact Steps.refl _)
  obtain ⟨v2_0, v2_1, hv2_0, hv2_1, S2⟩ : ∃ (v2_0 : Int32) (v2_1 : Int32), (if (p0 % p5) < p3 then (0 : Int32) else ((1 : Int32) + (((p0 % p5) - p3) / p4))) = v2_0 ∧ (if (p0 % p5) < p3 then (p0 % p5) else (((p0 % p5) - p3) % p4)) = v2_1 ∧ Steps p.tables e below (s₁.setTop (mkF m 9 #[.val (.int p0), .val (.int p1), .val (.int p2), .val (.int p3), .val (.int p4), .val (.int p5), .val (.int (p0 % p5)), .unset, .unset] [(.int p3), (.int (p0 % p5))])) (s₁.setTop (mkF m 42 #[.val (.int p0), .val (.int p1), .val (.int p2), .val (.int p3), .val (.int p4), .val (.int p5), .val (.int (p0 % p5)), .val (.int v2_0), .val (.int v2_1)] [])) := by
    have R2 := Steps.refl (tb := p.tables) (e := e) (below := below) (s₁.setTop (mkF m 9 #[.val (.int p0), .val (.int p1), .val (.int p2), .val (.int p3), .val (.int p4), .val (.int p5), .val (.int (p0 % p5)), .unset, .unset] [(.int p3), (.int (p0 % p5))]))
    by_cases hc9 : (p0 % p5) < p3
    · have K3 : Steps p.tables e below _ (s₁.setTop (mkF m 42 #[.val (.int p0), .val (.int p1), .val (.int p2), .val (.int p3), .val (.int p4), .val (.int p5), .val (.int (p0 % p5)), .val (.int (0 : Int32)), .val (.int (p0 % p5))] [])) := R2.trans (by
        show Steps p.tables e below (s₁.setTop (mkF m 9 #[.val (.int p0), .val (.int p1), .val (.int p2), .val (.int p3), .val (.int p4), .val (.int p5), .val (.int (p0 % p5)), .unset, .unset] [(.int p3), (.int (p0 % p5))])) _
        refine XS.icmpNo X0.here hx rfl (hb hby d4_9) rfl (tlt hc9).2.1 ?_
        show Steps p.tables e below (s₁.setTop (mkF m 12 #[.val (.int p0), .val (.int p1), .val (.int p2), .val (.int p3), .val (.int p4), .val (.int p5), .val (.int (p0 % p5)), .unset, .unset] [])) _
        refine XS.iconst X0.here hx rfl (hb hby d4_12) ?_
        show Steps p.tables e below (s₁.setTop (mkF m 13 #[.val (.int p0), .val (.int p1), .val (.int p2), .val (.int p3), .val (.int p4), .val (.int p5), .val (.int (p0 % p5)), .unset, .unset] [(.int (0 : Int32))])) _
        refine XS.istore X0.here hx rfl (hb hby d4_13) rfl (l' := #[.val (.int p0), .val (.int p1), .val (.int p2), .val (.int p3), .val (.int p4), .val (.int p5), .val (.int (p0 % p5)), .val (.int (0 : Int32)), .unset]) rfl ?_
        show Steps p.tables e below (s₁.setTop (mkF m 15 #[.val (.int p0), .val (.int p1), .val (.int p2), .val (.int p3), .val (.int p4), .val (.int p5), .val (.int (p0 % p5)), .val (.int (0 : Int32)), .unset] [])) _
        refine XS.iload X0.here hx rfl (hb hby d4_15) rfl ?_
        show Steps p.tables e below (s₁.setTop (mkF m 17 #[.val (.int p0), .val (.int p1), .val (.int p2), .val (.int p3), .val (.int p4), .val (.int p5), .val (.int (p0 % p5)), .val (.int (0 : Int32)), .unset] [(.int (p0 % p5))])) _
        refine XS.istore X0.here hx rfl (hb hby d4_17) rfl (l' := #[.val (.int p0), .val (.int p1), .val (.int p2), .val (.int p3), .val (.int p4), .val (.int p5), .val (.int (p0 % p5)), .val (.int (0 : Int32)), .val (.int (p0 % p5))]) rfl ?_
        show Steps p.tables e below (s₁.setTop (mkF m 19 #[.val (.int p0), .val (.int p1), .val (.int p2), .val (.int p3), .val (.int p4), .val (.int p5), .val (.int (p0 % p5)), .val (.int (0 : Int32)), .val (.int (p0 % p5))] [])) _
        refine XS.goto X0.here hx rfl (pc0 := 19) (pc' := 42) rfl (hb hby d4_19) (by decide) (by decide) ?_
        show Steps p.tables e below (s₁.setTop (mkF m 42 #[.val (.int p0), .val (.int p1), .val (.int p2), .val (.int p3), .val (.int p4), .val (.int p5), .val (.int (p0 % p5)), .val (.int (0 : Int32)), .val (.int (p0 % p5))] [])) _
        exact Steps.refl _)
      exact ⟨(0 : Int32), (p0 % p5), (by rw [if_pos hc9]), (by rw [if_pos hc9]), K3⟩
    · have K4 : Steps p.tables e below _ (s₁.setTop (mkF m 42 #[.val (.int p0), .val (.int p1), .val (.int p2), .val (.int p3), .val (.int p4), .val (.int p5), .val (.int (p0 % p5)), .val (.int ((1 : Int32) + (((p0 % p5) - p3) / p4))), .val (.int (((p0 % p5) - p3) % p4))] [])) := R2.trans (by
        show Steps p.tables e below (s₁.setTop (mkF m 9 #[.val (.int p0), .val (.int p1), .val (.int p2), .val (.int p3), .val (.int p4), .val (.int p5), .val (.int (p0 % p5)), .unset, .unset] [(.int p3), (.int (p0 % p5))])) _
        refine XS.icmpYes X0.here hx rfl (pc0 := 9) (pc' := 22) rfl (hb hby d4_9) rfl (flt hc9).2.1 (by decide) (by decide) ?_
        show Steps p.tables e below (s₁.setTop (mkF m 22 #[.val (.int p0), .val (.int p1), .val (.int p2), .val (.int p3), .val (.int p4), .val (.int p5), .val (.int (p0 % p5)), .unset, .unset] [])) _
        refine XS.iconst X0.here hx rfl (hb hby d4_22) ?_
        show Steps p.tables e below (s₁.setTop (mkF m 23 #[.val (.int p0), .val (.int p1), .val (.int p2), .val (.int p3), .val (.int p4), .val (.int p5), .val (.int (p0 % p5)), .unset, .unset] [(.int (1 : Int32))])) _
        refine XS.iload X0.here hx rfl (hb hby d4_23) rfl ?_
        show Steps p.tables e below (s₁.setTop (mkF m 25 #[.val (.int p0), .val (.int p1), .val (.int p2), .val (.int p3), .val (.int p4), .val (.int p5), .val (.int (p0 % p5)), .unset, .unset] [(.int (p0 % p5)), (.int (1 : Int32))])) _
        refine XS.iloadN X0.here hx rfl (hb hby d4_25) rfl ?_
        show Steps p.tables e below (s₁.setTop (mkF m 26 #[.val (.int p0), .val (.int p1), .val (.int p2), .val (.int p3), .val (.int p4), .val (.int p5), .val (.int (p0 % p5)), .unset, .unset] [(.int p3), (.int (p0 % p5)), (.int (1 : Int32))])) _
        refine XS.isub X0.here hx rfl (hb hby d4_26) rfl ?_
        show Steps p.tables e below (s₁.setTop (mkF m 27 #[.val (.int p0), .val (.int p1), .val (.int p2), .val (.int p3), .val (.int p4), .val (.int p5), .val (.int (p0 % p5)), .unset, .unset] [(.int ((p0 % p5) - p3)), (.int (1 : Int32))])) _
        refine XS.iload X0.here hx rfl (hb hby d4_27) rfl ?_
        show Steps p.tables e below (s₁.setTop (mkF m 29 #[.val (.int p0), .val (.int p1), .val (.int p2), .val (.int p3), .val (.int p4), .val (.int p5), .val (.int (p0 % p5)), .unset, .unset] [(.int p4), (.int ((p0 % p5) - p3)), (.int (1 : Int32))])) _
        refine XS.idiv X0.here hx rfl (hb hby d4_29) rfl hz4 ?_
        show Steps p.tables e below (s₁.setTop (mkF m 30 #[.val (.int p0), .val (.int p1), .val (.int p2), .val (.int p3), .val (.int p4), .val (.int p5), .val (.int (p0 % p5)), .unset, .unset] [(.int (((p0 % p5) - p3) / p4)), (.int (1 : Int32))])) _
        refine XS.iadd X0.here hx rfl (hb hby d4_30) rfl ?_
        show Steps p.tables e below (s₁.setTop (mkF m 31 #[.val (.int p0), .val (.int p1), .val (.int p2), .val (.int p3), .val (.int p4), .val (.int p5), .val (.int (p0 % p5)), .unset, .unset] [(.int ((1 : Int32) + (((p0 % p5) - p3) / p4)))])) _
        refine XS.istore X0.here hx rfl (hb hby d4_31) rfl (l' := #[.val (.int p0), .val (.int p1), .val (.int p2), .val (.int p3), .val (.int p4), .val (.int p5), .val (.int (p0 % p5)), .val (.int ((1 : Int32) + (((p0 % p5) - p3) / p4))), .unset]) rfl ?_
        show Steps p.tables e below (s₁.setTop (mkF m 33 #[.val (.int p0), .val (.int p1), .val (.int p2), .val (.int p3), .val (.int p4), .val (.int p5), .val (.int (p0 % p5)), .val (.int ((1 : Int32) + (((p0 % p5) - p3) / p4))), .unset] [])) _
        refine XS.iload X0.here hx rfl (hb hby d4_33) rfl ?_
        show Steps p.tables e below (s₁.setTop (mkF m 35 #[.val (.int p0), .val (.int p1), .val (.int p2), .val (.int p3), .val (.int p4), .val (.int p5), .val (.int (p0 % p5)), .val (.int ((1 : Int32) + (((p0 % p5) - p3) / p4))), .unset] [(.int (p0 % p5))])) _
        refine XS.iloadN X0.here hx rfl (hb hby d4_35) rfl ?_
        show Steps p.tables e below (s₁.setTop (mkF m 36 #[.val (.int p0), .val (.int p1), .val (.int p2), .val (.int p3), .val (.int p4), .val (.int p5), .val (.int (p0 % p5)), .val (.int ((1 : Int32) + (((p0 % p5) - p3) / p4))), .unset] [(.int p3), (.int (p0 % p5))])) _
        refine XS.isub X0.here hx rfl (hb hby d4_36) rfl ?_
        show Steps p.tables e below (s₁.setTop (mkF m 37 #[.val (.int p0), .val (.int p1), .val (.int p2), .val (.int p3), .val (.int p4), .val (.int p5), .val (.int (p0 % p5)), .val (.int ((1 : Int32) + (((p0 % p5) - p3) / p4))), .unset] [(.int ((p0 % p5) - p3))])) _
        refine XS.iload X0.here hx rfl (hb hby d4_37) rfl ?_
        show Steps p.tables e below (s₁.setTop (mkF m 39 #[.val (.int p0), .val (.int p1), .val (.int p2), .val (.int p3), .val (.int p4), .val (.int p5), .val (.int (p0 % p5)), .val (.int ((1 : Int32) + (((p0 % p5) - p3) / p4))), .unset] [(.int p4), (.int ((p0 % p5) - p3))])) _
        refine iremM X0 hx rfl (hb hby d4_39) rfl hz4 ?_
        show Steps p.tables e below (s₁.setTop (mkF m 40 #[.val (.int p0), .val (.int p1), .val (.int p2), .val (.int p3), .val (.int p4), .val (.int p5), .val (.int (p0 % p5)), .val (.int ((1 : Int32) + (((p0 % p5) - p3) / p4))), .unset] [(.int (((p0 % p5) - p3) % p4))])) _
        refine XS.istore X0.here hx rfl (hb hby d4_40) rfl (l' := #[.val (.int p0), .val (.int p1), .val (.int p2), .val (.int p3), .val (.int p4), .val (.int p5), .val (.int (p0 % p5)), .val (.int ((1 : Int32) + (((p0 % p5) - p3) / p4))), .val (.int (((p0 % p5) - p3) % p4))]) rfl ?_
        show Steps p.tables e below (s₁.setTop (mkF m 42 #[.val (.int p0), .val (.int p1), .val (.int p2), .val (.int p3), .val (.int p4), .val (.int p5), .val (.int (p0 % p5)), .val (.int ((1 : Int32) + (((p0 % p5) - p3) / p4))), .val (.int (((p0 % p5) - p3) % p4))] [])) _
        exact Steps.refl _)
      exact ⟨((1 : Int32) + (((p0 % p5) - p3) / p4)), (((p0 % p5) - p3) % p4), (by rw [if_neg hc9]), (by rw [if_neg hc9]), K4⟩
  have K5 := K1.trans S2
  have K6 : Steps p.tables e below _ (s₁.setTop (mkF m 45 #[.val (.int p0), .val (.int p1), .val (.int p2), .val (.int p3), .val (.int p4), .val (.int p5), .val (.int (p0 % p5)), .val (.int v2_0), .val (.int v2_1)] [(.int v2_0), (.int p1)])) := K5.trans (by
    show Steps p.tables e below (s₁.setTop (mkF m 42 #[.val (.int p0), .val (.int p1), .val (.int p2), .val (.int p3), .val (.int p4), .val (.int p5), .val (.int (p0 % p5)), .val (.int v2_0), .val (.int v2_1)] [])) _
    refine XS.iloadN X0.here hx rfl (hb hby d4_42) rfl ?_
    show Steps p.tables e below (s₁.setTop (mkF m 43 #[.val (.int p0), .val (.int p1), .val (.int p2), .val (.int p3), .val (.int p4), .val (.int p5), .val (.int (p0 % p5)), .val (.int v2_0), .val (.int v2_1)] [(.int p1)])) _
    refine XS.iload X0.here hx rfl (hb hby d4_43) rfl ?_
    show Steps p.tables e below (s₁.setTop (mkF m 45 #[.val (.int p0), .val (.int p1), .val (.int p2), .val (.int p3), .val (.int p4), .val (.int p5), .val (.int (p0 % p5)), .val (.int v2_0), .val (.int v2_1)] [(.int v2_0), (.int p1)])) _
    exact Steps.refl _)
  obtain ⟨v7_0, hv7_0, S7⟩ : ∃ (v7_0 : Int32), (if p1 = v2_0 then (if p2 = v2_1 then (1 : Int32) else (0 : Int32)) else (0 : Int32)) = v7_0 ∧ Steps p.tables e below (s₁.setTop (mkF m 45 #[.val (.int p0), .val (.int p1), .val (.int p2), .val (.int p3), .val (.int p4), .val (.int p5), .val (.int (p0 % p5)), .val (.int v2_0), .val (.int v2_1)] [(.int v2_0), (.int p1)])) (s₁.setTop (mkF m 59 #[.val (.int p0), .val (.int p1), .val (.int p2), .val (.int p3), .val (.int p4), .val (.int p5), .val (.int (p0 % p5)), .val (.int v2_0), .val (.int v2_1)] [(.int v7_0)])) := by
    have R7 := Steps.refl (tb := p.tables) (e := e) (below := below) (s₁.setTop (mkF m 45 #[.val (.int p0), .val (.int p1), .val (.int p2), .val (.int p3), .val (.int p4), .val (.int p5), .val (.int (p0 % p5)), .val (.int v2_0), .val (.int v2_1)] [(.int v2_0), (.int p1)]))
    by_cases hc45 : p1 = v2_0
    · have K8 : Steps p.tables e below _ (s₁.setTop (mkF m 51 #[.val (.int p0), .val (.int p1), .val (.int p2), .val (.int p3), .val (.int p4), .val (.int p5), .val (.int (p0 % p5)), .val (.int v2_0), .val (.int v2_1)] [(.int v2_1), (.int p2)])) := R7.trans (by
        show Steps p.tables e below (s₁.setTop (mkF m 45 #[.val (.int p0), .val (.int p1), .val (.int p2), .val (.int p3), .val (.int p4), .val (.int p5), .val (.int (p0 % p5)), .val (.int v2_0), .val (.int v2_1)] [(.int v2_0), (.int p1)])) _
        refine XS.icmpNo X0.here hx rfl (hb hby d4_45) rfl (teq hc45).2 ?_
        show Steps p.tables e below (s₁.setTop (mkF m 48 #[.val (.int p0), .val (.int p1), .val (.int p2), .val (.int p3), .val (.int p4), .val (.int p5), .val (.int (p0 % p5)), .val (.int v2_0), .val (.int v2_1)] [])) _
        refine XS.iloadN X0.here hx rfl (hb hby d4_48) rfl ?_
        show Steps p.tables e below (s₁.setTop (mkF m 49 #[.val (.int p0), .val (.int p1), .val (.int p2), .val (.int p3), .val (.int p4), .val (.int p5), .val (.int (p0 % p5)), .val (.int v2_0), .val (.int v2_1)] [(.int p2)])) _
        refine XS.iload X0.here hx rfl (hb hby d4_49) rfl ?_
        show Steps p.tables e below (s₁.setTop (mkF m 51 #[.val (.int p0), .val (.int p1), .val (.int p2), .val (.int p3), .val (.int p4), .val (.int p5), .val (.int (p0 % p5)), .val (.int v2_0), .val (.int v2_1)] [(.int v2_1), (.int p2)])) _
        exact Steps.refl _)
      by_cases hc51 : p2 = v2_1
      · have K9 : Steps p.tables e below _ (s₁.setTop (mkF m 59 #[.val (.int p0), .val (.int p1), .val (.int p2), .val (.int p3), .val (.int p4), .val (.int p5), .val (.int (p0 % p5)), .val (.int v2_0), .val (.int v2_1)] [(.int (1 : Int32))])) := K8.trans (by
          show Steps p.tables e below (s₁.setTop (mkF m 51 #[.val (.int p0), .val (.int p1), .val (.int p2), .val (.int p3), .val (.int p4), .val (.int p5), .val (.int (p0 % p5)), .val (.int v2_0), .val (.int v2_1)] [(.int v2_1), (.int p2)])) _
          refine XS.icmpNo X0.here hx rfl (hb hby d4_51) rfl (teq hc51).2 ?_
          show Steps p.tables e below (s₁.setTop (mkF m 54 #[.val (.int p0), .val (.int p1), .val (.int p2), .val (.int p3), .val (.int p4), .val (.int p5), .val (.int (p0 % p5)), .val (.int v2_0), .val (.int v2_1)] [])) _
          refine XS.iconst X0.here hx rfl (hb hby d4_54) ?_
          show Steps p.tables e below (s₁.setTop (mkF m 55 #[.val (.int p0), .val (.int p1), .val (.int p2), .val (.int p3), .val (.int p4), .val (.int p5), .val (.int (p0 % p5)), .val (.int v2_0), .val (.int v2_1)] [(.int (1 : Int32))])) _
          refine XS.goto X0.here hx rfl (pc0 := 55) (pc' := 59) rfl (hb hby d4_55) (by decide) (by decide) ?_
          show Steps p.tables e below (s₁.setTop (mkF m 59 #[.val (.int p0), .val (.int p1), .val (.int p2), .val (.int p3), .val (.int p4), .val (.int p5), .val (.int (p0 % p5)), .val (.int v2_0), .val (.int v2_1)] [(.int (1 : Int32))])) _
          exact Steps.refl _)
        exact ⟨(1 : Int32), (by rw [if_pos hc45, if_pos hc51]), K9⟩
      · have K10 : Steps p.tables e below _ (s₁.setTop (mkF m 59 #[.val (.int p0), .val (.int p1), .val (.int p2), .val (.int p3), .val (.int p4), .val (.int p5), .val (.int (p0 % p5)), .val (.int v2_0), .val (.int v2_1)] [(.int (0 : Int32))])) := K8.trans (by
          show Steps p.tables e below (s₁.setTop (mkF m 51 #[.val (.int p0), .val (.int p1), .val (.int p2), .val (.int p3), .val (.int p4), .val (.int p5), .val (.int (p0 % p5)), .val (.int v2_0), .val (.int v2_1)] [(.int v2_1), (.int p2)])) _
          refine XS.icmpYes X0.here hx rfl (pc0 := 51) (pc' := 58) rfl (hb hby d4_51) rfl (feq hc51).2 (by decide) (by decide) ?_
          show Steps p.tables e below (s₁.setTop (mkF m 58 #[.val (.int p0), .val (.int p1), .val (.int p2), .val (.int p3), .val (.int p4), .val (.int p5), .val (.int (p0 % p5)), .val (.int v2_0), .val (.int v2_1)] [])) _
          refine XS.iconst X0.here hx rfl (hb hby d4_58) ?_
          show Steps p.tables e below (s₁.setTop (mkF m 59 #[.val (.int p0), .val (.int p1), .val (.int p2), .val (.int p3), .val (.int p4), .val (.int p5), .val (.int (p0 % p5)), .val (.int v2_0), .val (.int v2_1)] [(.int (0 : Int32))])) _
          exact Steps.refl _)
        exact ⟨(0 : Int32), (by rw [if_pos hc45, if_neg hc51]), K10⟩
    · have K11 : Steps p.tables e below _ (s₁.setTop (mkF m 59 #[.val (.int p0), .val (.int p1), .val (.int p2), .val (.int p3), .val (.int p4), .val (.int p5), .val (.int (p0 % p5)), .val (.int v2_0), .val (.int v2_1)] [(.int (0 : Int32))])) := R7.trans (by
        show Steps p.tables e below (s₁.setTop (mkF m 45 #[.val (.int p0), .val (.int p1), .val (.int p2), .val (.int p3), .val (.int p4), .val (.int p5), .val (.int (p0 % p5)), .val (.int v2_0), .val (.int v2_1)] [(.int v2_0), (.int p1)])) _
        refine XS.icmpYes X0.here hx rfl (pc0 := 45) (pc' := 58) rfl (hb hby d4_45) rfl (feq hc45).2 (by decide) (by decide) ?_
        show Steps p.tables e below (s₁.setTop (mkF m 58 #[.val (.int p0), .val (.int p1), .val (.int p2), .val (.int p3), .val (.int p4), .val (.int p5), .val (.int (p0 % p5)), .val (.int v2_0), .val (.int v2_1)] [])) _
        refine XS.iconst X0.here hx rfl (hb hby d4_58) ?_
        show Steps p.tables e below (s₁.setTop (mkF m 59 #[.val (.int p0), .val (.int p1), .val (.int p2), .val (.int p3), .val (.int p4), .val (.int p5), .val (.int (p0 % p5)), .val (.int v2_0), .val (.int v2_1)] [(.int (0 : Int32))])) _
        exact Steps.refl _)
      exact ⟨(0 : Int32), (by rw [if_neg hc45]), K11⟩
  have K12 := K6.trans S7
  subst hv7_0
  subst hv2_1
  subst hv2_0
  obtain ⟨fs, hr, hrun, hended, hW, hsame⟩ := X0.leave (v := some (.int ((if p1 = (if (p0 % p5) < p3 then (0 : Int32) else ((1 : Int32) + (((p0 % p5) - p3) / p4))) then (if p2 = (if (p0 % p5) < p3 then (p0 % p5) else (((p0 % p5) - p3) % p4)) then (1 : Int32) else (0 : Int32)) else (0 : Int32)) &&& 1))) (fun h => by rw [Bd.returns] at h; cases h)
  refine ⟨_, _, K12.trans (retN X0 hx (t := .boolean) Bd.returns (by simp) (hb hby d4_59) hr), hrun, hended, _, _, rfl, ?_, ⟨_, rfl⟩, hW, hsame.mono (by decide) (by first | decide | omega)⟩
  show Q_rm4 Z p0 p1 p2 p3 p4 p5 h0 n0 _ s₁.heap _
  rw [e0]
  exact ⟨rfl, N0, rfl⟩
theorem d6_0 : decode method_3_code 0 = .ok (.iload_n 0, 1) := by decide +kernel
theorem d6_1 : decode method_3_code 1 = .ok (.iload_n 1, 1) := by decide +kernel
theorem d6_2 : decode method_3_code 2 = .ok (.irem, 1) := by decide +kernel
theorem d6_3 : decode method_3_code 3 = .ok (.iload_n 1, 1) := by decide +kernel
theorem d6_4 : decode method_3_code 4 = .ok (.iconst 1, 1) := by decide +kernel
theorem d6_5 : decode method_3_code 5 = .ok (.isub, 1) := by decide +kernel
theorem d6_6 : decode method_3_code 6 = .ok (.if_icmp .eq 7, 3) := by decide +kernel
theorem d6_13 : decode method_3_code 13 = .ok (.iconst 0, 1) := by decide +kernel
theorem d6_9 : decode method_3_code 9 = .ok (.iconst 1, 1) := by decide +kernel
theorem d6_10 : decode method_3_code 10 = .ok (.goto 4, 3) := by decide +kernel
def Q_rm6 (Z : State) (p0 : Int32) (p1 : Int32) (h0 : Heap) (n0 : Nat) (v : Option Value) (h : Heap) (L : List Loc) : Prop := v = some (.int ((if (p0 % p1) = (p1 - (1 : Int32)) then (0 : Int32) else (1 : Int32)) &&& 1)) ∧ Fr n0 L ∧ h = h0
theorem pn_6 : plainName "com/example/futures_from_states/futuresfromstates/model/ChoicesNextPinLaw" = true := by first | (simp [plainName, overriddenIn]; done) | decide +kernel
theorem ef_6 (m : MethodId) (x0 : Int32) (x1 : Int32) : entryFrame m #[(.int x0), (.int x1)] 2 = mkF m 0 #[.val (.int x0), .val (.int x1)] [] := by first | (simp [entryFrame, mkF, argsToLocals, Value.category]; done) | rfl
theorem d6_14 : decode method_3_code 14 = .ok (.ireturn, 1) := by decide +kernel
set_option maxRecDepth 65536 in
set_option maxHeartbeats 40000000 in
theorem rm6 (l : Launch) (Z : State) (a0 : Array Value) (hw : ∀ d ∈ tables_1, d.before a0 Z = true) (ws : List Jvm.Cond) (p0 : Int32) (p1 : Int32) (h0 : Heap) (n0 : Nat) (Z0 : n0 ≤ h0.size) (hz1 : p1 ≠ 0) :
    MetFree l (⟨"com/example/futures_from_states/futuresfromstates/model/ChoicesNextPinLaw", "notLast", "(II)Z"⟩ : MethodName) (head1 (Jvm.Cond.code (⟨"com/example/futures_from_states/futuresfromstates/model/ChoicesNextPinLaw", "notLast", "(II)Z"⟩ : MethodName) method_3_code 2 (some .boolean) :: ws) ({ frames := 0, cells := 0, slots := 0, locals := 0 } : Room)) (fun a U => a = #[(.int p0), (.int p1)] ∧ Z.Warmed39 U.vm ∧ U.heap = h0) (fun _ _ _ _ _ => True) (fun _ U o U' => ∃ v L, o = .returned v ∧ Q_rm6 Z p0 p1 h0 n0 v U'.heap L ∧ FrameEnd U o U' L ({ frames := 0, cells := 0, slots := 0, locals := 0 } : Room).cells ({ frames := 0, cells := 0, slots := 0, locals := 0 } : Room).slots) := by
  refine MetFree.of_bodySF (plainFor_of_name pn_6) hisR ?_
  intro p e s m args below meth c s₁ Bd hml0 hP hK
  obtain ⟨rfl, hZ, hh⟩ := hP
  have hx := Bd.exec
  have hby := Bd.bytes
  have hml : c.maxLocals = 2 := hml0
  have hown : s.vm.findClass "com/example/futures_from_states/futuresfromstates/model/ChoicesNextPinLaw" = some m.cls := findClass_of_methodNamed Bd.named
  have hnm := (name_of_methodNamed Bd.named Bd.method).1
  have X0 : Stand p l e ({ frames := 0, cells := 0, slots := 0, locals := 0 } : Room) s m #[(.int p0), (.int p1)] below meth c s₁ [] 0 0 := Stand.of_body Bd
  have e0 : s₁.heap = h0 := by rw [← hh, Bd.state]; rfl
  have N0 := Fr.nil n0
  have Kp0 : Keep h0 h0 [] := Keep.refl _ _
  have K0 : Steps p.tables e below (s₁.setTop (entryFrame m #[(.int p0), (.int p1)] 2)) (s₁.setTop (mkF m 0 #[.val (.int p0), .val (.int p1)] [])) := castTop (ef_6 m p0 p1) (Steps.refl _)
  have K1 : Steps p.tables e below _ (s₁.setTop (mkF m 6 #[.val (.int p0), .val (.int p1)] [(.int (p1 - (1 : Int32))), (.int (p0 % p1))])) := K0.trans (by
    show Steps p.tables e below (s₁.setTop (mkF m 0 #[.val (.int p0), .val (.int p1)] [])) _
    refine XS.iloadN X0.here hx rfl (hb hby d6_0) rfl ?_
    show Steps p.tables e below (s₁.setTop (mkF m 1 #[.val (.int p0), .val (.int p1)] [(.int p0)])) _
    refine XS.iloadN X0.here hx rfl (hb hby d6_1) rfl ?_
    show Steps p.tables e below (s₁.setTop (mkF m 2 #[.val (.int p0), .val (.int p1)] [(.int p1), (.int p0)])) _
    refine iremM X0 hx rfl (hb hby d6_2) rfl hz1 ?_
    show Steps p.tables e below (s₁.setTop (mkF m 3 #[.val (.int p0), .val (.int p1)] [(.int (p0 % p1))])) _
    refine XS.iloadN X0.here hx rfl (hb hby d6_3) rfl ?_
    show Steps p.tables e below (s₁.setTop (mkF m 4 #[.val (.int p0), .val (.int p1)] [(.int p1), (.int (p0 % p1))])) _
    refine XS.iconst X0.here hx rfl (hb hby d6_4) ?_
    show Steps p.tables e below (s₁.setTop (mkF m 5 #[.val (.int p0), .val (.int p1)] [(.int (1 : Int32)), (.int p1), (.int (p0 % p1))])) _
    refine XS.isub X0.here hx rfl (hb hby d6_5) rfl ?_
    show Steps p.tables e below (s₁.setTop (mkF m 6 #[.val (.int p0), .val (.int p1)] [(.int (p1 - (1 : Int32))), (.int (p0 % p1))])) _
    exact Steps.refl _)
  obtain ⟨v2_0, hv2_0, S2⟩ : ∃ (v2_0 : Int32), (if (p0 % p1) = (p1 - (1 : Int32)) then (0 : Int32) else (1 : Int32)) = v2_0 ∧ Steps p.tables e below (s₁.setTop (mkF m 6 #[.val (.int p0), .val (.int p1)] [(.int (p1 - (1 : Int32))), (.int (p0 % p1))])) (s₁.setTop (mkF m 14 #[.val (.int p0), .val (.int p1)] [(.int v2_0)])) := by
    have R2 := Steps.refl (tb := p.tables) (e := e) (below := below) (s₁.setTop (mkF m 6 #[.val (.int p0), .val (.int p1)] [(.int (p1 - (1 : Int32))), (.int (p0 % p1))]))
    by_cases hc6 : (p0 % p1) = (p1 - (1 : Int32))
    · have K3 : Steps p.tables e below _ (s₁.setTop (mkF m 14 #[.val (.int p0), .val (.int p1)] [(.int (0 : Int32))])) := R2.trans (by
        show Steps p.tables e below (s₁.setTop (mkF m 6 #[.val (.int p0), .val (.int p1)] [(.int (p1 - (1 : Int32))), (.int (p0 % p1))])) _
        refine XS.icmpYes X0.here hx rfl (pc0 := 6) (pc' := 13) rfl (hb hby d6_6) rfl (teq hc6).1 (by decide) (by decide) ?_
        show Steps p.tables e below (s₁.setTop (mkF m 13 #[.val (.int p0), .val (.int p1)] [])) _
        refine XS.iconst X0.here hx rfl (hb hby d6_13) ?_
        show Steps p.tables e below (s₁.setTop (mkF m 14 #[.val (.int p0), .val (.int p1)] [(.int (0 : Int32))])) _
        exact Steps.refl _)
      exact ⟨(0 : Int32), (by rw [if_pos hc6]), K3⟩
    · have K4 : Steps p.tables e below _ (s₁.setTop (mkF m 14 #[.val (.int p0), .val (.int p1)] [(.int (1 : Int32))])) := R2.trans (by
        show Steps p.tables e below (s₁.setTop (mkF m 6 #[.val (.int p0), .val (.int p1)] [(.int (p1 - (1 : Int32))), (.int (p0 % p1))])) _
        refine XS.icmpNo X0.here hx rfl (hb hby d6_6) rfl (feq hc6).1 ?_
        show Steps p.tables e below (s₁.setTop (mkF m 9 #[.val (.int p0), .val (.int p1)] [])) _
        refine XS.iconst X0.here hx rfl (hb hby d6_9) ?_
        show Steps p.tables e below (s₁.setTop (mkF m 10 #[.val (.int p0), .val (.int p1)] [(.int (1 : Int32))])) _
        refine XS.goto X0.here hx rfl (pc0 := 10) (pc' := 14) rfl (hb hby d6_10) (by decide) (by decide) ?_
        show Steps p.tables e below (s₁.setTop (mkF m 14 #[.val (.int p0), .val (.int p1)] [(.int (1 : Int32))])) _
        exact Steps.refl _)
      exact ⟨(1 : Int32), (by rw [if_neg hc6]), K4⟩
  have K5 := K1.trans S2
  subst hv2_0
  obtain ⟨fs, hr, hrun, hended, hW, hsame⟩ := X0.leave (v := some (.int ((if (p0 % p1) = (p1 - (1 : Int32)) then (0 : Int32) else (1 : Int32)) &&& 1))) (fun h => by rw [Bd.returns] at h; cases h)
  refine ⟨_, _, K5.trans (retN X0 hx (t := .boolean) Bd.returns (by simp) (hb hby d6_14) hr), hrun, hended, _, _, rfl, ?_, ⟨_, rfl⟩, hW, hsame.mono (by decide) (by first | decide | omega)⟩
  show Q_rm6 Z p0 p1 h0 n0 _ s₁.heap _
  rw [e0]
  exact ⟨rfl, N0, rfl⟩
theorem d3_0 : decode prog_50_method_2_code 0 = .ok (.iload_n 1, 1) := by decide +kernel
theorem d3_1 : decode prog_50_method_2_code 1 = .ok (.iconst 1, 1) := by decide +kernel
theorem d3_2 : decode prog_50_method_2_code 2 = .ok (.if_icmp .ne 5, 3) := by decide +kernel
theorem d3_5 : decode prog_50_method_2_code 5 = .ok (.iconst 0, 1) := by decide +kernel
theorem d3_7 : decode prog_50_method_2_code 7 = .ok (.aload_n 0, 1) := by decide +kernel
theorem d3_8 : decode prog_50_method_2_code 8 = .ok (.getfield 16, 3) := by decide +kernel
theorem d3_11 : decode prog_50_method_2_code 11 = .ok (.aload_n 0, 1) := by decide +kernel
theorem d3_12 : decode prog_50_method_2_code 12 = .ok (.getfield 20, 3) := by decide +kernel
theorem d3_15 : decode prog_50_method_2_code 15 = .ok (.if_icmp .ne 79, 3) := by decide +kernel
theorem d3_18 : decode prog_50_method_2_code 18 = .ok (.aload_n 0, 1) := by decide +kernel
theorem d3_19 : decode prog_50_method_2_code 19 = .ok (.getfield 16, 3) := by decide +kernel
theorem d3_22 : decode prog_50_method_2_code 22 = .ok (.aload_n 0, 1) := by decide +kernel
theorem d3_23 : decode prog_50_method_2_code 23 = .ok (.getfield 7, 3) := by decide +kernel
theorem d3_26 : decode prog_50_method_2_code 26 = .ok (.arraylength, 1) := by decide +kernel
theorem d3_27 : decode prog_50_method_2_code 27 = .ok (.if_icmp .ne 37, 3) := by decide +kernel
theorem d3_64 : decode prog_50_method_2_code 64 = .ok (.aload_n 0, 1) := by decide +kernel
theorem d3_65 : decode prog_50_method_2_code 65 = .ok (.getfield 7, 3) := by decide +kernel
theorem d3_68 : decode prog_50_method_2_code 68 = .ok (.aload_n 0, 1) := by decide +kernel
theorem d3_69 : decode prog_50_method_2_code 69 = .ok (.getfield 16, 3) := by decide +kernel
theorem d3_72 : decode prog_50_method_2_code 72 = .ok (.iconst 0, 1) := by decide +kernel
theorem d3_73 : decode prog_50_method_2_code 73 = .ok (.iastore, 1) := by decide +kernel
theorem d3_74 : decode prog_50_method_2_code 74 = .ok (.aload_n 0, 1) := by decide +kernel
theorem d3_75 : decode prog_50_method_2_code 75 = .ok (.getfield 13, 3) := by decide +kernel
theorem d3_78 : decode prog_50_method_2_code 78 = .ok (.aload_n 0, 1) := by decide +kernel
theorem d3_79 : decode prog_50_method_2_code 79 = .ok (.getfield 16, 3) := by decide +kernel
theorem d3_82 : decode prog_50_method_2_code 82 = .ok (.iload_n 1, 1) := by decide +kernel
theorem d3_83 : decode prog_50_method_2_code 83 = .ok (.iastore, 1) := by decide +kernel
theorem d3_84 : decode prog_50_method_2_code 84 = .ok (.aload_n 0, 1) := by decide +kernel
theorem d3_85 : decode prog_50_method_2_code 85 = .ok (.dup, 1) := by decide +kernel
theorem d3_86 : decode prog_50_method_2_code 86 = .ok (.getfield 20, 3) := by decide +kernel
theorem d3_89 : decode prog_50_method_2_code 89 = .ok (.iconst 1, 1) := by decide +kernel
theorem d3_90 : decode prog_50_method_2_code 90 = .ok (.iadd, 1) := by decide +kernel
theorem d3_91 : decode prog_50_method_2_code 91 = .ok (.putfield 20, 3) := by decide +kernel
theorem d3_94 : decode prog_50_method_2_code 94 = .ok (.aload_n 0, 1) := by decide +kernel
theorem d3_95 : decode prog_50_method_2_code 95 = .ok (.getfield 7, 3) := by decide +kernel
theorem d3_98 : decode prog_50_method_2_code 98 = .ok (.aload_n 0, 1) := by decide +kernel
theorem d3_99 : decode prog_50_method_2_code 99 = .ok (.dup, 1) := by decide +kernel
theorem d3_100 : decode prog_50_method_2_code 100 = .ok (.getfield 16, 3) := by decide +kernel
theorem d3_103 : decode prog_50_method_2_code 103 = .ok (.dup_x1, 1) := by decide +kernel
theorem d3_104 : decode prog_50_method_2_code 104 = .ok (.iconst 1, 1) := by decide +kernel
theorem d3_105 : decode prog_50_method_2_code 105 = .ok (.iadd, 1) := by decide +kernel
theorem d3_106 : decode prog_50_method_2_code 106 = .ok (.putfield 16, 3) := by decide +kernel
theorem d3_109 : decode prog_50_method_2_code 109 = .ok (.iaload, 1) := by decide +kernel
def u_rm3_3 (p1 : Int32) (made : Int32) : Int32 := (if p1 = (1 : Int32) then made else (made + (1 : Int32)))
def u_rm3_4 (p1 : Int32) (made : Int32) (rep : Int32) : Int32 := (if p1 = (1 : Int32) then rep else (if made = rep then (rep + (1 : Int32)) else rep))
def u_rm3_5 (p1 : Int32) (vc : List Value) (made : Int32) (rep : Int32) : List Value := (if p1 = (1 : Int32) then vc else (if made = rep then (vc.set made.toNatClampNeg (.int (0 : Int32))) else vc))
def u_rm3_6 (p1 : Int32) (vt : List Value) (made : Int32) (rep : Int32) : List Value := (if p1 = (1 : Int32) then vt else (if made = rep then (vt.set made.toNatClampNeg (.int p1)) else vt))
def f_rm3 (p1 : Int32) (vc : List Value) (made : Int32) (rep : Int32) : Int32 := (if p1 = (1 : Int32) then (0 : Int32) else (if made = rep then (0 : Int32) else (own_by vc made)))
def Q_rm3 (Z : State) (o0 : Addr) (p1 : Int32) (ca : Addr) (cb : Addr) (kc : ClassId) (kt : ClassId) (vc : List Value) (vt : List Value) (made : Int32) (rep : Int32) (h0 : Heap) (n0 : Nat) (v : Option Value) (h : Heap) (L : List Loc) : Prop := v = some (.int (f_rm3 p1 vc made rep)) ∧ Fr n0 L ∧ Keep h0 h [o0, ca, cb] ∧ Exa Z h o0 "com/example/futures_from_states/futuresfromstates/model/Choices" ∧ Fld Z h o0 "com/example/futures_from_states/futuresfromstates/model/Choices" "chosen" "[I" (.ref ca) ∧ Fld Z h o0 "com/example/futures_from_states/futuresfromstates/model/Choices" "counts" "[I" (.ref cb) ∧ Fld Z h o0 "com/example/futures_from_states/futuresfromstates/model/Choices" "made" "I" (.int (u_rm3_3 p1 made)) ∧ Fld Z h o0 "com/example/futures_from_states/futuresfromstates/model/Choices" "replayed" "I" (.int (u_rm3_4 p1 made rep)) ∧ Arv Z h ca kc .int (16 : Int32) (u_rm3_5 p1 vc made rep) (.int (0 : Int32)) ∧ Arv Z h cb kt .int (16 : Int32) (u_rm3_6 p1 vt made rep) (.int (0 : Int32))
theorem pn_3 : plainName "com/example/futures_from_states/futuresfromstates/model/Choices" = true := by first | (simp [plainName, overriddenIn]; done) | decide +kernel
theorem ef_3 (m : MethodId) (x0 : Addr) (x1 : Int32) : entryFrame m #[(.ref x0), (.int x1)] 2 = mkF m 0 #[.val (.ref x0), .val (.int x1)] [] := by first | (simp [entryFrame, mkF, argsToLocals, Value.category]; done) | rfl
theorem d3_6 : decode prog_50_method_2_code 6 = .ok (.ireturn, 1) := by decide +kernel
theorem d3_110 : decode prog_50_method_2_code 110 = .ok (.ireturn, 1) := by decide +kernel
set_option maxRecDepth 65536 in
set_option maxHeartbeats 40000000 in
theorem rm3 (l : Launch) (Z : State) (a0 : Array Value) (hw : ∀ d ∈ tables_1, d.before a0 Z = true) (ws : List Jvm.Cond) (o0 : Addr) (p1 : Int32) (ca : Addr) (cb : Addr) (kc : ClassId) (kt : ClassId) (vc : List Value) (vt : List Value) (made : Int32) (rep : Int32) (h0 : Heap) (n0 : Nat) (Z0 : n0 ≤ h0.size) (E_o0 : Exa Z h0 o0 "com/example/futures_from_states/futuresfromstates/model/Choices") (F_chosen_o0 : Fld Z h0 o0 "com/example/futures_from_states/futuresfromstates/model/Choices" "chosen" "[I" (.ref ca)) (F_counts_o0 : Fld Z h0 o0 "com/example/futures_from_states/futuresfromstates/model/Choices" "counts" "[I" (.ref cb)) (F_made_o0 : Fld Z h0 o0 "com/example/futures_from_states/futuresfromstates/model/Choices" "made" "I" (.int made)) (F_replayed_o0 : Fld Z h0 o0 "com/example/futures_from_states/futuresfromstates/model/Choices" "replayed" "I" (.int rep)) (V_ca : Arv Z h0 ca kc .int (16 : Int32) vc (.int (0 : Int32))) (V_cb : Arv Z h0 cb kt .int (16 : Int32) vt (.int (0 : Int32))) (ne_o0_ca : o0 ≠ ca) (ne_o0_cb : o0 ≠ cb) (ne_ca_cb : ca ≠ cb) (g_o0 : n0 ≤ o0) (g_ca : n0 ≤ ca) (g_cb : n0 ≤ cb) (hI : own_iv 1 made vc vt) :
    MetFree l (⟨"com/example/futures_from_states/futuresfromstates/model/Choices", "choose", "(I)I"⟩ : MethodName) (head1 (Jvm.Cond.code (⟨"com/example/futures_from_states/futuresfromstates/model/Choices", "choose", "(I)I"⟩ : MethodName) prog_50_method_2_code 2 (some .int) :: ws) ({ frames := 0, cells := 0, slots := 0, locals := 0 } : Room)) (fun a U => a = #[(.ref o0), (.int p1)] ∧ Z.Warmed39 U.vm ∧ U.heap = h0) (fun _ _ _ _ _ => True) (fun _ U o U' => ∃ v L, o = .returned v ∧ Q_rm3 Z o0 p1 ca cb kc kt vc vt made rep h0 n0 v U'.heap L ∧ FrameEnd U o U' L ({ frames := 0, cells := 0, slots := 0, locals := 0 } : Room).cells ({ frames := 0, cells := 0, slots := 0, locals := 0 } : Room).slots) := by
  refine MetFree.of_bodySF (plainFor_of_name pn_3) hisR ?_
  intro p e s m args below meth c s₁ Bd hml0 hP hK
  obtain ⟨rfl, hZ, hh⟩ := hP
  have hx := Bd.exec
  have hby := Bd.bytes
  have hml : c.maxLocals = 2 := hml0
  have hown : s.vm.findClass "com/example/futures_from_states/futuresfromstates/model/Choices" = some m.cls := findClass_of_methodNamed Bd.named
  have hnm := (name_of_methodNamed Bd.named Bd.method).1
  have X0 : Stand p l e ({ frames := 0, cells := 0, slots := 0, locals := 0 } : Room) s m #[(.ref o0), (.int p1)] below meth c s₁ [] 0 0 := Stand.of_body Bd
  have e0 : s₁.heap = h0 := by rw [← hh, Bd.state]; rfl
  have N0 := Fr.nil n0
  have Kp0 : Keep h0 h0 [o0, ca, cb] := Keep.refl _ _
  have K0 : Steps p.tables e below (s₁.setTop (entryFrame m #[(.ref o0), (.int p1)] 2)) (s₁.setTop (mkF m 0 #[.val (.ref o0), .val (.int p1)] [])) := castTop (ef_3 m o0 p1) (Steps.refl _)
  have K1 : Steps p.tables e below _ (s₁.setTop (mkF m 2 #[.val (.ref o0), .val (.int p1)] [(.int (1 : Int32)), (.int p1)])) := K0.trans (by
    show Steps p.tables e below (s₁.setTop (mkF m 0 #[.val (.ref o0), .val (.int p1)] [])) _
    refine XS.iloadN X0.here hx rfl (hb hby d3_0) rfl ?_
    show Steps p.tables e below (s₁.setTop (mkF m 1 #[.val (.ref o0), .val (.int p1)] [(.int p1)])) _
    refine XS.iconst X0.here hx rfl (hb hby d3_1) ?_
    show Steps p.tables e below (s₁.setTop (mkF m 2 #[.val (.ref o0), .val (.int p1)] [(.int (1 : Int32)), (.int p1)])) _
    exact Steps.refl _)
  by_cases hc2 : p1 = (1 : Int32)
  · have K2 : Steps p.tables e below _ (s₁.setTop (mkF m 6 #[.val (.ref o0), .val (.int p1)] [(.int (0 : Int32))])) := K1.trans (by
      show Steps p.tables e below (s₁.setTop (mkF m 2 #[.val (.ref o0), .val (.int p1)] [(.int (1 : Int32)), (.int p1)])) _
      refine XS.icmpNo X0.here hx rfl (hb hby d3_2) rfl (teq hc2).2 ?_
      show Steps p.tables e below (s₁.setTop (mkF m 5 #[.val (.ref o0), .val (.int p1)] [])) _
      refine XS.iconst X0.here hx rfl (hb hby d3_5) ?_
      show Steps p.tables e below (s₁.setTop (mkF m 6 #[.val (.ref o0), .val (.int p1)] [(.int (0 : Int32))])) _
      exact Steps.refl _)
    obtain ⟨fs, hr, hrun, hended, hW, hsame⟩ := X0.leave (v := some (.int (0 : Int32))) (fun h => by rw [Bd.returns] at h; cases h)
    refine ⟨_, _, K2.trans (retOut X0 hx Bd.returns rfl (Or.inl ⟨rfl, Or.inl rfl, _, rfl⟩) (hb hby d3_6) hr), hrun, hended, _, _, rfl, ?_, ⟨_, rfl⟩, hW, hsame.mono (by decide) (by first | decide | omega)⟩
    show Q_rm3 Z o0 p1 ca cb kc kt vc vt made rep h0 n0 _ s₁.heap _
    rw [e0]
    exact ⟨(by unfold f_rm3; rw [if_pos hc2]), N0, Kp0, E_o0, F_chosen_o0, F_counts_o0, (by unfold u_rm3_3; rw [if_pos hc2]; exact F_made_o0), (by unfold u_rm3_4; rw [if_pos hc2]; exact F_replayed_o0), (by unfold u_rm3_5; rw [if_pos hc2]; exact V_ca), (by unfold u_rm3_6; rw [if_pos hc2]; exact V_cb)⟩
  · have K3 : Steps p.tables e below _ (s₁.setTop (mkF m 8 #[.val (.ref o0), .val (.int p1)] [(.ref o0)])) := K1.trans (by
      show Steps p.tables e below (s₁.setTop (mkF m 2 #[.val (.ref o0), .val (.int p1)] [(.int (1 : Int32)), (.int p1)])) _
      refine XS.icmpYes X0.here hx rfl (pc0 := 2) (pc' := 7) rfl (hb hby d3_2) rfl (feq hc2).2 (by decide) (by decide) ?_
      show Steps p.tables e below (s₁.setTop (mkF m 7 #[.val (.ref o0), .val (.int p1)] [])) _
      refine XS.aloadN X0.here hx rfl (hb hby d3_7) rfl rfl ?_
      show Steps p.tables e below (s₁.setTop (mkF m 8 #[.val (.ref o0), .val (.int p1)] [(.ref o0)])) _
      exact Steps.refl _)
    obtain ⟨T4, X4, e4, st4⟩ := getF X0 hx hZ hown (host := "") (Or.inl (hw _ (List.mem_of_getElem? (i := 19) rfl))) Via.refl e0 F_made_o0 (g := (mkF m 8 #[.val (.ref o0), .val (.int p1)] [(.ref o0)])) rfl rfl (hb hby d3_8)
    have K5 : Steps p.tables e below _ (T4.setTop (mkF m 11 #[.val (.ref o0), .val (.int p1)] [(.int made)])) := K3.trans (st4 _ (Steps.refl _))
    have K6 : Steps p.tables e below _ (T4.setTop (mkF m 12 #[.val (.ref o0), .val (.int p1)] [(.ref o0), (.int made)])) := K5.trans (by
      show Steps p.tables e below (T4.setTop (mkF m 11 #[.val (.ref o0), .val (.int p1)] [(.int made)])) _
      refine XS.aloadN X4.here hx rfl (hb hby d3_11) rfl rfl ?_
      show Steps p.tables e below (T4.setTop (mkF m 12 #[.val (.ref o0), .val (.int p1)] [(.ref o0), (.int made)])) _
      exact Steps.refl _)
    obtain ⟨T7, X7, e7, st7⟩ := getF X4 hx hZ hown (host := "") (Or.inl (hw _ (List.mem_of_getElem? (i := 21) rfl))) Via.refl e4 F_replayed_o0 (g := (mkF m 12 #[.val (.ref o0), .val (.int p1)] [(.ref o0), (.int made)])) rfl rfl (hb hby d3_12)
    have K8 : Steps p.tables e below _ (T7.setTop (mkF m 15 #[.val (.ref o0), .val (.int p1)] [(.int rep), (.int made)])) := K6.trans (st7 _ (Steps.refl _))
    by_cases hc15 : made = rep
    · have K9 : Steps p.tables e below _ (T7.setTop (mkF m 19 #[.val (.ref o0), .val (.int p1)] [(.ref o0)])) := K8.trans (by
        show Steps p.tables e below (T7.setTop (mkF m 15 #[.val (.ref o0), .val (.int p1)] [(.int rep), (.int made)])) _
        refine XS.icmpNo X7.here hx rfl (hb hby d3_15) rfl (teq hc15).2 ?_
        show Steps p.tables e below (T7.setTop (mkF m 18 #[.val (.ref o0), .val (.int p1)] [])) _
        refine XS.aloadN X7.here hx rfl (hb hby d3_18) rfl rfl ?_
        show Steps p.tables e below (T7.setTop (mkF m 19 #[.val (.ref o0), .val (.int p1)] [(.ref o0)])) _
        exact Steps.refl _)
      obtain ⟨T10, X10, e10, st10⟩ := getF X7 hx hZ hown (host := "") (Or.inl (hw _ (List.mem_of_getElem? (i := 19) rfl))) Via.refl e7 F_made_o0 (g := (mkF m 19 #[.val (.ref o0), .val (.int p1)] [(.ref o0)])) rfl rfl (hb hby d3_19)
      have K11 : Steps p.tables e below _ (T10.setTop (mkF m 22 #[.val (.ref o0), .val (.int p1)] [(.int made)])) := K9.trans (st10 _ (Steps.refl _))
      have K12 : Steps p.tables e below _ (T10.setTop (mkF m 23 #[.val (.ref o0), .val (.int p1)] [(.ref o0), (.int made)])) := K11.trans (by
        show Steps p.tables e below (T10.setTop (mkF m 22 #[.val (.ref o0), .val (.int p1)] [(.int made)])) _
        refine XS.aloadN X10.here hx rfl (hb hby d3_22) rfl rfl ?_
        show Steps p.tables e below (T10.setTop (mkF m 23 #[.val (.ref o0), .val (.int p1)] [(.ref o0), (.int made)])) _
        exact Steps.refl _)
      obtain ⟨T13, X13, e13, st13⟩ := getF X10 hx hZ hown (host := "") (Or.inl (hw _ (List.mem_of_getElem? (i := 10) rfl))) Via.refl e10 F_chosen_o0 (g := (mkF m 23 #[.val (.ref o0), .val (.int p1)] [(.ref o0), (.int made)])) rfl rfl (hb hby d3_23)
      have K14 : Steps p.tables e below _ (T13.setTop (mkF m 26 #[.val (.ref o0), .val (.int p1)] [(.ref ca), (.int made)])) := K12.trans (st13 _ (Steps.refl _))
      have K16 : Steps p.tables e below _ (T13.setTop (mkF m 27 #[.val (.ref o0), .val (.int p1)] [(.int (16 : Int32)), (.int made)])) := K14.trans (by
        show Steps p.tables e below (T13.setTop (mkF m 26 #[.val (.ref o0), .val (.int p1)] [(.ref ca), (.int made)])) _
        refine (own_len X13 hx hZ e13 V_ca (g := (mkF m 26 #[.val (.ref o0), .val (.int p1)] [(.ref ca), (.int made)])) rfl rfl (hb hby d3_26)).trans ?_
        show Steps p.tables e below (T13.setTop (mkF m 27 #[.val (.ref o0), .val (.int p1)] [(.int (16 : Int32)), (.int made)])) _
        exact Steps.refl _)
      have hc27_14 : ¬ (made = (16 : Int32)) := own_m16 hI
      have K17 : Steps p.tables e below _ (T13.setTop (mkF m 65 #[.val (.ref o0), .val (.int p1)] [(.ref o0)])) := K16.trans (by
        show Steps p.tables e below (T13.setTop (mkF m 27 #[.val (.ref o0), .val (.int p1)] [(.int (16 : Int32)), (.int made)])) _
        refine XS.icmpYes X13.here hx rfl (pc0 := 27) (pc' := 64) rfl (hb hby d3_27) rfl (feq hc27_14).2 (by decide) (by decide) ?_
        show Steps p.tables e below (T13.setTop (mkF m 64 #[.val (.ref o0), .val (.int p1)] [])) _
        refine XS.aloadN X13.here hx rfl (hb hby d3_64) rfl rfl ?_
        show Steps p.tables e below (T13.setTop (mkF m 65 #[.val (.ref o0), .val (.int p1)] [(.ref o0)])) _
        exact Steps.refl _)
      obtain ⟨T18, X18, e18, st18⟩ := getF X13 hx hZ hown (host := "") (Or.inl (hw _ (List.mem_of_getElem? (i := 10) rfl))) Via.refl e13 F_chosen_o0 (g := (mkF m 65 #[.val (.ref o0), .val (.int p1)] [(.ref o0)])) rfl rfl (hb hby d3_65)
      have K19 : Steps p.tables e below _ (T18.setTop (mkF m 68 #[.val (.ref o0), .val (.int p1)] [(.ref ca)])) := K17.trans (st18 _ (Steps.refl _))
      have K20 : Steps p.tables e below _ (T18.setTop (mkF m 69 #[.val (.ref o0), .val (.int p1)] [(.ref o0), (.ref ca)])) := K19.trans (by
        show Steps p.tables e below (T18.setTop (mkF m 68 #[.val (.ref o0), .val (.int p1)] [(.ref ca)])) _
        refine XS.aloadN X18.here hx rfl (hb hby d3_68) rfl rfl ?_
        show Steps p.tables e below (T18.setTop (mkF m 69 #[.val (.ref o0), .val (.int p1)] [(.ref o0), (.ref ca)])) _
        exact Steps.refl _)
      obtain ⟨T21, X21, e21, st21⟩ := getF X18 hx hZ hown (host := "") (Or.inl (hw _ (List.mem_of_getElem? (i := 19) rfl))) Via.refl e18 F_made_o0 (g := (mkF m 69 #[.val (.ref o0), .val (.int p1)] [(.ref o0), (.ref ca)])) rfl rfl (hb hby d3_69)
      have K22 : Steps p.tables e below _ (T21.setTop (mkF m 72 #[.val (.ref o0), .val (.int p1)] [(.int made), (.ref ca)])) := K20.trans (st21 _ (Steps.refl _))
      have K23 : Steps p.tables e below _ (T21.setTop (mkF m 73 #[.val (.ref o0), .val (.int p1)] [(.int (0 : Int32)), (.int made), (.ref ca)])) := K22.trans (by
        show Steps p.tables e below (T21.setTop (mkF m 72 #[.val (.ref o0), .val (.int p1)] [(.int made), (.ref ca)])) _
        refine XS.iconst X21.here hx rfl (hb hby d3_72) ?_
        show Steps p.tables e below (T21.setTop (mkF m 73 #[.val (.ref o0), .val (.int p1)] [(.int (0 : Int32)), (.int made), (.ref ca)])) _
        exact Steps.refl _)
      obtain ⟨T24, h24, X24, e24, W24, V24, st24⟩ := own_stI X21 hx hZ e21 V_ca (j := made) (own_mb hI) made.toNatClampNeg rfl (own_mc hI) (g := (mkF m 73 #[.val (.ref o0), .val (.int p1)] [(.int (0 : Int32)), (.int made), (.ref ca)])) rfl rfl (hb hby d3_73)
      have K25 : Steps p.tables e below _ (T24.setTop (mkF m 74 #[.val (.ref o0), .val (.int p1)] [])) := K23.trans st24
      have Vw24 : Arv Z h24 ca kc .int (16 : Int32) (vc.set made.toNatClampNeg (.int (0 : Int32))) (.int (0 : Int32)) := V24
      have N24 := Fr.snoc X24 N0 g_ca
      have K26 : Steps p.tables e below _ (T24.setTop (mkF m 75 #[.val (.ref o0), .val (.int p1)] [(.ref o0)])) := K25.trans (by
        show Steps p.tables e below (T24.setTop (mkF m 74 #[.val (.ref o0), .val (.int p1)] [])) _
        refine XS.aloadN X24.here hx rfl (hb hby d3_74) rfl rfl ?_
        show Steps p.tables e below (T24.setTop (mkF m 75 #[.val (.ref o0), .val (.int p1)] [(.ref o0)])) _
        exact Steps.refl _)
      have F_27 : Fld Z h24 o0 "com/example/futures_from_states/futuresfromstates/model/Choices" "counts" "[I" (.ref cb) := (F_counts_o0.other W24 (Or.inl ne_o0_ca))
      obtain ⟨T28, X28, e28, st28⟩ := getF X24 hx hZ hown (host := "") (Or.inl (hw _ (List.mem_of_getElem? (i := 12) rfl))) Via.refl e24 F_27 (g := (mkF m 75 #[.val (.ref o0), .val (.int p1)] [(.ref o0)])) rfl rfl (hb hby d3_75)
      have K29 : Steps p.tables e below _ (T28.setTop (mkF m 78 #[.val (.ref o0), .val (.int p1)] [(.ref cb)])) := K26.trans (st28 _ (Steps.refl _))
      have K30 : Steps p.tables e below _ (T28.setTop (mkF m 79 #[.val (.ref o0), .val (.int p1)] [(.ref o0), (.ref cb)])) := K29.trans (by
        show Steps p.tables e below (T28.setTop (mkF m 78 #[.val (.ref o0), .val (.int p1)] [(.ref cb)])) _
        refine XS.aloadN X28.here hx rfl (hb hby d3_78) rfl rfl ?_
        show Steps p.tables e below (T28.setTop (mkF m 79 #[.val (.ref o0), .val (.int p1)] [(.ref o0), (.ref cb)])) _
        exact Steps.refl _)
      have F_31 : Fld Z h24 o0 "com/example/futures_from_states/futuresfromstates/model/Choices" "made" "I" (.int made) := (F_made_o0.other W24 (Or.inl ne_o0_ca))
      obtain ⟨T32, X32, e32, st32⟩ := getF X28 hx hZ hown (host := "") (Or.inl (hw _ (List.mem_of_getElem? (i := 19) rfl))) Via.refl e28 F_31 (g := (mkF m 79 #[.val (.ref o0), .val (.int p1)] [(.ref o0), (.ref cb)])) rfl rfl (hb hby d3_79)
      have K33 : Steps p.tables e below _ (T32.setTop (mkF m 82 #[.val (.ref o0), .val (.int p1)] [(.int made), (.ref cb)])) := K30.trans (st32 _ (Steps.refl _))
      have K34 : Steps p.tables e below _ (T32.setTop (mkF m 83 #[.val (.ref o0), .val (.int p1)] [(.int p1), (.int made), (.ref cb)])) := K33.trans (by
        show Steps p.tables e below (T32.setTop (mkF m 82 #[.val (.ref o0), .val (.int p1)] [(.int made), (.ref cb)])) _
        refine XS.iloadN X32.here hx rfl (hb hby d3_82) rfl ?_
        show Steps p.tables e below (T32.setTop (mkF m 83 #[.val (.ref o0), .val (.int p1)] [(.int p1), (.int made), (.ref cb)])) _
        exact Steps.refl _)
      have V_35 : Arv Z h24 cb kt .int (16 : Int32) vt (.int (0 : Int32)) := (V_cb.other W24 (Ne.symm ne_ca_cb))
      obtain ⟨T36, h36, X36, e36, W36, V36, st36⟩ := own_stI X32 hx hZ e32 V_35 (j := made) (own_mb hI) made.toNatClampNeg rfl (own_mt hI) (g := (mkF m 83 #[.val (.ref o0), .val (.int p1)] [(.int p1), (.int made), (.ref cb)])) rfl rfl (hb hby d3_83)
      have K37 : Steps p.tables e below _ (T36.setTop (mkF m 84 #[.val (.ref o0), .val (.int p1)] [])) := K34.trans st36
      have Vw36 : Arv Z h36 cb kt .int (16 : Int32) (vt.set made.toNatClampNeg (.int p1)) (.int (0 : Int32)) := V36
      have N36 := Fr.snoc X36 N24 g_cb
      have K38 : Steps p.tables e below _ (T36.setTop (mkF m 86 #[.val (.ref o0), .val (.int p1)] [(.ref o0), (.ref o0)])) := K37.trans (by
        show Steps p.tables e below (T36.setTop (mkF m 84 #[.val (.ref o0), .val (.int p1)] [])) _
        refine XS.aloadN X36.here hx rfl (hb hby d3_84) rfl rfl ?_
        show Steps p.tables e below (T36.setTop (mkF m 85 #[.val (.ref o0), .val (.int p1)] [(.ref o0)])) _
        refine XS.dup X36.here hx rfl (hb hby d3_85) rfl rfl ?_
        show Steps p.tables e below (T36.setTop (mkF m 86 #[.val (.ref o0), .val (.int p1)] [(.ref o0), (.ref o0)])) _
        exact Steps.refl _)
      have F_39 : Fld Z h36 o0 "com/example/futures_from_states/futuresfromstates/model/Choices" "replayed" "I" (.int rep) := ((F_replayed_o0.other W24 (Or.inl ne_o0_ca)).other W36 (Or.inl ne_o0_cb))
      obtain ⟨T40, X40, e40, st40⟩ := getF X36 hx hZ hown (host := "") (Or.inl (hw _ (List.mem_of_getElem? (i := 21) rfl))) Via.refl e36 F_39 (g := (mkF m 86 #[.val (.ref o0), .val (.int p1)] [(.ref o0), (.ref o0)])) rfl rfl (hb hby d3_86)
      have K41 : Steps p.tables e below _ (T40.setTop (mkF m 89 #[.val (.ref o0), .val (.int p1)] [(.int rep), (.ref o0)])) := K38.trans (st40 _ (Steps.refl _))
      have K42 : Steps p.tables e below _ (T40.setTop (mkF m 91 #[.val (.ref o0), .val (.int p1)] [(.int (rep + (1 : Int32))), (.ref o0)])) := K41.trans (by
        show Steps p.tables e below (T40.setTop (mkF m 89 #[.val (.ref o0), .val (.int p1)] [(.int rep), (.ref o0)])) _
        refine XS.iconst X40.here hx rfl (hb hby d3_89) ?_
        show Steps p.tables e below (T40.setTop (mkF m 90 #[.val (.ref o0), .val (.int p1)] [(.int (1 : Int32)), (.int rep), (.ref o0)])) _
        refine XS.iadd X40.here hx rfl (hb hby d3_90) rfl ?_
        show Steps p.tables e below (T40.setTop (mkF m 91 #[.val (.ref o0), .val (.int p1)] [(.int (rep + (1 : Int32))), (.ref o0)])) _
        exact Steps.refl _)
      have E_43 : Exa Z h36 o0 "com/example/futures_from_states/futuresfromstates/model/Choices" := ((E_o0.wr W24).wr W36)
      obtain ⟨T44, h44, X44, e44, W44, st44⟩ := putF X40 hx hZ hown (host := "") (Or.inl (hw _ (List.mem_of_getElem? (i := 21) rfl))) Via.refl e40 F_39 E_43 (Or.inl (hw _ (List.mem_of_getElem? (i := 22) rfl))) (hw _ (List.mem_of_getElem? (i := 1) rfl)) (ty := .int) (by decide) rfl rfl (g := (mkF m 91 #[.val (.ref o0), .val (.int p1)] [(.int (rep + (1 : Int32))), (.ref o0)])) rfl rfl (hb hby d3_91)
      have K45 : Steps p.tables e below _ (T44.setTop (mkF m 94 #[.val (.ref o0), .val (.int p1)] [])) := K42.trans (st44 _ (Steps.refl _))
      have Fw44 : Fld Z h44 o0 "com/example/futures_from_states/futuresfromstates/model/Choices" "replayed" "I" (.int (rep + (1 : Int32))) := F_39.same W44
      have N44 := Fr.snoc X44 N36 g_o0
      have K46 : Steps p.tables e below _ (T44.setTop (mkF m 95 #[.val (.ref o0), .val (.int p1)] [(.ref o0)])) := K45.trans (by
        show Steps p.tables e below (T44.setTop (mkF m 94 #[.val (.ref o0), .val (.int p1)] [])) _
        refine XS.aloadN X44.here hx rfl (hb hby d3_94) rfl rfl ?_
        show Steps p.tables e below (T44.setTop (mkF m 95 #[.val (.ref o0), .val (.int p1)] [(.ref o0)])) _
        exact Steps.refl _)
      have F_47 : Fld Z h44 o0 "com/example/futures_from_states/futuresfromstates/model/Choices" "chosen" "[I" (.ref ca) := (((F_chosen_o0.other W24 (Or.inl ne_o0_ca)).other W36 (Or.inl ne_o0_cb)).other W44 (Or.inr (slot_ne (Or.inl (hw _ (List.mem_of_getElem? (i := 11) rfl))) (Or.inl (hw _ (List.mem_of_getElem? (i := 22) rfl))) (by decide) (t := (.array .int)) (t' := .int) (by decide) (by decide))))
      obtain ⟨T48, X48, e48, st48⟩ := getF X44 hx hZ hown (host := "") (Or.inl (hw _ (List.mem_of_getElem? (i := 10) rfl))) Via.refl e44 F_47 (g := (mkF m 95 #[.val (.ref o0), .val (.int p1)] [(.ref o0)])) rfl rfl (hb hby d3_95)
      have K49 : Steps p.tables e below _ (T48.setTop (mkF m 98 #[.val (.ref o0), .val (.int p1)] [(.ref ca)])) := K46.trans (st48 _ (Steps.refl _))
      have K50 : Steps p.tables e below _ (T48.setTop (mkF m 100 #[.val (.ref o0), .val (.int p1)] [(.ref o0), (.ref o0), (.ref ca)])) := K49.trans (by
        show Steps p.tables e below (T48.setTop (mkF m 98 #[.val (.ref o0), .val (.int p1)] [(.ref ca)])) _
        refine XS.aloadN X48.here hx rfl (hb hby d3_98) rfl rfl ?_
        show Steps p.tables e below (T48.setTop (mkF m 99 #[.val (.ref o0), .val (.int p1)] [(.ref o0), (.ref ca)])) _
        refine XS.dup X48.here hx rfl (hb hby d3_99) rfl rfl ?_
        show Steps p.tables e below (T48.setTop (mkF m 100 #[.val (.ref o0), .val (.int p1)] [(.ref o0), (.ref o0), (.ref ca)])) _
        exact Steps.refl _)
      have F_51 : Fld Z h44 o0 "com/example/futures_from_states/futuresfromstates/model/Choices" "made" "I" (.int made) := ((F_31.other W36 (Or.inl ne_o0_cb)).other W44 (Or.inr (slot_ne (Or.inl (hw _ (List.mem_of_getElem? (i := 20) rfl))) (Or.inl (hw _ (List.mem_of_getElem? (i := 22) rfl))) (by decide) (t := .int) (t' := .int) (by decide) (by decide))))
      obtain ⟨T52, X52, e52, st52⟩ := getF X48 hx hZ hown (host := "") (Or.inl (hw _ (List.mem_of_getElem? (i := 19) rfl))) Via.refl e48 F_51 (g := (mkF m 100 #[.val (.ref o0), .val (.int p1)] [(.ref o0), (.ref o0), (.ref ca)])) rfl rfl (hb hby d3_100)
      have K53 : Steps p.tables e below _ (T52.setTop (mkF m 103 #[.val (.ref o0), .val (.int p1)] [(.int made), (.ref o0), (.ref ca)])) := K50.trans (st52 _ (Steps.refl _))
      have K54 : Steps p.tables e below _ (T52.setTop (mkF m 106 #[.val (.ref o0), .val (.int p1)] [(.int (made + (1 : Int32))), (.ref o0), (.int made), (.ref ca)])) := K53.trans (by
        show Steps p.tables e below (T52.setTop (mkF m 103 #[.val (.ref o0), .val (.int p1)] [(.int made), (.ref o0), (.ref ca)])) _
        refine XS.dupX1 X52.here hx rfl (hb hby d3_103) rfl rfl rfl ?_
        show Steps p.tables e below (T52.setTop (mkF m 104 #[.val (.ref o0), .val (.int p1)] [(.int made), (.ref o0), (.int made), (.ref ca)])) _
        refine XS.iconst X52.here hx rfl (hb hby d3_104) ?_
        show Steps p.tables e below (T52.setTop (mkF m 105 #[.val (.ref o0), .val (.int p1)] [(.int (1 : Int32)), (.int made), (.ref o0), (.int made), (.ref ca)])) _
        refine XS.iadd X52.here hx rfl (hb hby d3_105) rfl ?_
        show Steps p.tables e below (T52.setTop (mkF m 106 #[.val (.ref o0), .val (.int p1)] [(.int (made + (1 : Int32))), (.ref o0), (.int made), (.ref ca)])) _
        exact Steps.refl _)
      have E_55 : Exa Z h44 o0 "com/example/futures_from_states/futuresfromstates/model/Choices" := (E_43.wr W44)
      obtain ⟨T56, h56, X56, e56, W56, st56⟩ := putF X52 hx hZ hown (host := "") (Or.inl (hw _ (List.mem_of_getElem? (i := 19) rfl))) Via.refl e52 F_51 E_55 (Or.inl (hw _ (List.mem_of_getElem? (i := 20) rfl))) (hw _ (List.mem_of_getElem? (i := 1) rfl)) (ty := .int) (by decide) rfl rfl (g := (mkF m 106 #[.val (.ref o0), .val (.int p1)] [(.int (made + (1 : Int32))), (.ref o0), (.int made), (.ref ca)])) rfl rfl (hb hby d3_106)
      have K57 : Steps p.tables e below _ (T56.setTop (mkF m 109 #[.val (.ref o0), .val (.int p1)] [(.int made), (.ref ca)])) := K54.trans (st56 _ (Steps.refl _))
      have Fw56 : Fld Z h56 o0 "com/example/futures_from_states/futuresfromstates/model/Choices" "made" "I" (.int (made + (1 : Int32))) := F_51.same W56
      have N56 := Fr.snoc X56 N44 g_o0
      have V_58 : Arv Z h56 ca kc .int (16 : Int32) (vc.set made.toNatClampNeg (.int (0 : Int32))) (.int (0 : Int32)) := (((Vw24.other W36 ne_ca_cb).other W44 (Ne.symm ne_o0_ca)).other W56 (Ne.symm ne_o0_ca))
      have K59 : Steps p.tables e below _ (T56.setTop (mkF m 110 #[.val (.ref o0), .val (.int p1)] [(.int (0 : Int32))])) := K57.trans (by
        show Steps p.tables e below (T56.setTop (mkF m 109 #[.val (.ref o0), .val (.int p1)] [(.int made), (.ref ca)])) _
        refine (own_ldI X56 hx hZ e56 V_58 (j := made) (own_mb hI) (own_gs _ _ _ _ (own_mc hI)) (g := (mkF m 109 #[.val (.ref o0), .val (.int p1)] [(.int made), (.ref ca)])) rfl rfl (hb hby d3_109)).trans ?_
        show Steps p.tables e below (T56.setTop (mkF m 110 #[.val (.ref o0), .val (.int p1)] [(.int (0 : Int32))])) _
        exact Steps.refl _)
      obtain ⟨fs, hr, hrun, hended, hW, hsame⟩ := X56.leave (v := some (.int (0 : Int32))) (fun h => by rw [Bd.returns] at h; cases h)
      have K_71 : Keep h0 h56 [o0, ca, cb] := ((((Kp0.wr W24 (Or.inl (List.mem_of_getElem? (i := 1) rfl))).wr W36 (Or.inl (List.mem_of_getElem? (i := 2) rfl))).wr W44 (Or.inl (List.mem_of_getElem? (i := 0) rfl))).wr W56 (Or.inl (List.mem_of_getElem? (i := 0) rfl)))
      have E_72 : Exa Z h56 o0 "com/example/futures_from_states/futuresfromstates/model/Choices" := (E_55.wr W56)
      have F_73 : Fld Z h56 o0 "com/example/futures_from_states/futuresfromstates/model/Choices" "chosen" "[I" (.ref ca) := (F_47.other W56 (Or.inr (slot_ne (Or.inl (hw _ (List.mem_of_getElem? (i := 11) rfl))) (Or.inl (hw _ (List.mem_of_getElem? (i := 20) rfl))) (by decide) (t := (.array .int)) (t' := .int) (by decide) (by decide))))
      have F_74 : Fld Z h56 o0 "com/example/futures_from_states/futuresfromstates/model/Choices" "counts" "[I" (.ref cb) := (((F_27.other W36 (Or.inl ne_o0_cb)).other W44 (Or.inr (slot_ne (Or.inl (hw _ (List.mem_of_getElem? (i := 13) rfl))) (Or.inl (hw _ (List.mem_of_getElem? (i := 22) rfl))) (by decide) (t := (.array .int)) (t' := .int) (by decide) (by decide)))).other W56 (Or.inr (slot_ne (Or.inl (hw _ (List.mem_of_getElem? (i := 13) rfl))) (Or.inl (hw _ (List.mem_of_getElem? (i := 20) rfl))) (by decide) (t := (.array .int)) (t' := .int) (by decide) (by decide))))
      have F_75 : Fld Z h56 o0 "com/example/futures_from_states/futuresfromstates/model/Choices" "replayed" "I" (.int (rep + (1 : Int32))) := (Fw44.other W56 (Or.inr (slot_ne (Or.inl (hw _ (List.mem_of_getElem? (i := 22) rfl))) (Or.inl (hw _ (List.mem_of_getElem? (i := 20) rfl))) (by decide) (t := .int) (t' := .int) (by decide) (by decide))))
      have V_76 : Arv Z h56 cb kt .int (16 : Int32) (vt.set made.toNatClampNeg (.int p1)) (.int (0 : Int32)) := ((Vw36.other W44 (Ne.symm ne_o0_cb)).other W56 (Ne.symm ne_o0_cb))
      refine ⟨_, _, K59.trans (retOut X56 hx Bd.returns rfl (Or.inl ⟨rfl, Or.inl rfl, _, rfl⟩) (hb hby d3_110) hr), hrun, hended, _, _, rfl, ?_, ⟨_, rfl⟩, hW, hsame.mono (by decide) (by first | decide | omega)⟩
      show Q_rm3 Z o0 p1 ca cb kc kt vc vt made rep h0 n0 _ T56.heap _
      rw [e56]
      exact ⟨(by unfold f_rm3; rw [if_neg hc2, if_pos hc15]), N56, K_71, E_72, F_73, F_74, (by unfold u_rm3_3; rw [if_neg hc2]; exact Fw56), (by unfold u_rm3_4; rw [if_neg hc2, if_pos hc15]; exact F_75), (by unfold u_rm3_5; rw [if_neg hc2, if_pos hc15]; exact V_58), (by unfold u_rm3_6; rw [if_neg hc2, if_pos hc15]; exact V_76)⟩
    · have K60 : Steps p.tables e below _ (T7.setTop (mkF m 95 #[.val (.ref o0), .val (.int p1)] [(.ref o0)])) := K8.trans (by
        show Steps p.tables e below (T7.setTop (mkF m 15 #[.val (.ref o0), .val (.int p1)] [(.int rep), (.int made)])) _
        refine XS.icmpYes X7.here hx rfl (pc0 := 15) (pc' := 94) rfl (hb hby d3_15) rfl (feq hc15).2 (by decide) (by decide) ?_
        show Steps p.tables e below (T7.setTop (mkF m 94 #[.val (.ref o0), .val (.int p1)] [])) _
        refine XS.aloadN X7.here hx rfl (hb hby d3_94) rfl rfl ?_
        show Steps p.tables e below (T7.setTop (mkF m 95 #[.val (.ref o0), .val (.int p1)] [(.ref o0)])) _
        exact Steps.refl _)
      obtain ⟨T61, X61, e61, st61⟩ := getF X7 hx hZ hown (host := "") (Or.inl (hw _ (List.mem_of_getElem? (i := 10) rfl))) Via.refl e7 F_chosen_o0 (g := (mkF m 95 #[.val (.ref o0), .val (.int p1)] [(.ref o0)])) rfl rfl (hb hby d3_95)
      have K62 : Steps p.tables e below _ (T61.setTop (mkF m 98 #[.val (.ref o0), .val (.int p1)] [(.ref ca)])) := K60.trans (st61 _ (Steps.refl _))
      have K63 : Steps p.tables e below _ (T61.setTop (mkF m 100 #[.val (.ref o0), .val (.int p1)] [(.ref o0), (.ref o0), (.ref ca)])) := K62.trans (by
        show Steps p.tables e below (T61.setTop (mkF m 98 #[.val (.ref o0), .val (.int p1)] [(.ref ca)])) _
        refine XS.aloadN X61.here hx rfl (hb hby d3_98) rfl rfl ?_
        show Steps p.tables e below (T61.setTop (mkF m 99 #[.val (.ref o0), .val (.int p1)] [(.ref o0), (.ref ca)])) _
        refine XS.dup X61.here hx rfl (hb hby d3_99) rfl rfl ?_
        show Steps p.tables e below (T61.setTop (mkF m 100 #[.val (.ref o0), .val (.int p1)] [(.ref o0), (.ref o0), (.ref ca)])) _
        exact Steps.refl _)
      obtain ⟨T64, X64, e64, st64⟩ := getF X61 hx hZ hown (host := "") (Or.inl (hw _ (List.mem_of_getElem? (i := 19) rfl))) Via.refl e61 F_made_o0 (g := (mkF m 100 #[.val (.ref o0), .val (.int p1)] [(.ref o0), (.ref o0), (.ref ca)])) rfl rfl (hb hby d3_100)
      have K65 : Steps p.tables e below _ (T64.setTop (mkF m 103 #[.val (.ref o0), .val (.int p1)] [(.int made), (.ref o0), (.ref ca)])) := K63.trans (st64 _ (Steps.refl _))
      have K66 : Steps p.tables e below _ (T64.setTop (mkF m 106 #[.val (.ref o0), .val (.int p1)] [(.int (made + (1 : Int32))), (.ref o0), (.int made), (.ref ca)])) := K65.trans (by
        show Steps p.tables e below (T64.setTop (mkF m 103 #[.val (.ref o0), .val (.int p1)] [(.int made), (.ref o0), (.ref ca)])) _
        refine XS.dupX1 X64.here hx rfl (hb hby d3_103) rfl rfl rfl ?_
        show Steps p.tables e below (T64.setTop (mkF m 104 #[.val (.ref o0), .val (.int p1)] [(.int made), (.ref o0), (.int made), (.ref ca)])) _
        refine XS.iconst X64.here hx rfl (hb hby d3_104) ?_
        show Steps p.tables e below (T64.setTop (mkF m 105 #[.val (.ref o0), .val (.int p1)] [(.int (1 : Int32)), (.int made), (.ref o0), (.int made), (.ref ca)])) _
        refine XS.iadd X64.here hx rfl (hb hby d3_105) rfl ?_
        show Steps p.tables e below (T64.setTop (mkF m 106 #[.val (.ref o0), .val (.int p1)] [(.int (made + (1 : Int32))), (.ref o0), (.int made), (.ref ca)])) _
        exact Steps.refl _)
      obtain ⟨T67, h67, X67, e67, W67, st67⟩ := putF X64 hx hZ hown (host := "") (Or.inl (hw _ (List.mem_of_getElem? (i := 19) rfl))) Via.refl e64 F_made_o0 E_o0 (Or.inl (hw _ (List.mem_of_getElem? (i := 20) rfl))) (hw _ (List.mem_of_getElem? (i := 1) rfl)) (ty := .int) (by decide) rfl rfl (g := (mkF m 106 #[.val (.ref o0), .val (.int p1)] [(.int (made + (1 : Int32))), (.ref o0), (.int made), (.ref ca)])) rfl rfl (hb hby d3_106)
      have K68 : Steps p.tables e below _ (T67.setTop (mkF m 109 #[.val (.ref o0), .val (.int p1)] [(.int made), (.ref ca)])) := K66.trans (st67 _ (Steps.refl _))
      have Fw67 : Fld Z h67 o0 "com/example/futures_from_states/futuresfromstates/model/Choices" "made" "I" (.int (made + (1 : Int32))) := F_made_o0.same W67
      have N67 := Fr.snoc X67 N0 g_o0
      have V_69 : Arv Z h67 ca kc .int (16 : Int32) vc (.int (0 : Int32)) := (V_ca.other W67 (Ne.symm ne_o0_ca))
      have K70 : Steps p.tables e below _ (T67.setTop (mkF m 110 #[.val (.ref o0), .val (.int p1)] [(.int (own_by vc made))])) := K68.trans (by
        show Steps p.tables e below (T67.setTop (mkF m 109 #[.val (.ref o0), .val (.int p1)] [(.int made), (.ref ca)])) _
        refine (own_ldI X67 hx hZ e67 V_69 (j := made) (own_mb hI) (hI.2.2.1 _) (g := (mkF m 109 #[.val (.ref o0), .val (.int p1)] [(.int made), (.ref ca)])) rfl rfl (hb hby d3_109)).trans ?_
        show Steps p.tables e below (T67.setTop (mkF m 110 #[.val (.ref o0), .val (.int p1)] [(.int (own_by vc made))])) _
        exact Steps.refl _)
      obtain ⟨fs, hr, hrun, hended, hW, hsame⟩ := X67.leave (v := some (.int (own_by vc made))) (fun h => by rw [Bd.returns] at h; cases h)
      have K_77 : Keep h0 h67 [o0, ca, cb] := (Kp0.wr W67 (Or.inl (List.mem_of_getElem? (i := 0) rfl)))
      have E_78 : Exa Z h67 o0 "com/example/futures_from_states/futuresfromstates/model/Choices" := (E_o0.wr W67)
      have F_79 : Fld Z h67 o0 "com/example/futures_from_states/futuresfromstates/model/Choices" "chosen" "[I" (.ref ca) := (F_chosen_o0.other W67 (Or.inr (slot_ne (Or.inl (hw _ (List.mem_of_getElem? (i := 11) rfl))) (Or.inl (hw _ (List.mem_of_getElem? (i := 20) rfl))) (by decide) (t := (.array .int)) (t' := .int) (by decide) (by decide))))
      have F_80 : Fld Z h67 o0 "com/example/futures_from_states/futuresfromstates/model/Choices" "counts" "[I" (.ref cb) := (F_counts_o0.other W67 (Or.inr (slot_ne (Or.inl (hw _ (List.mem_of_getElem? (i := 13) rfl))) (Or.inl (hw _ (List.mem_of_getElem? (i := 20) rfl))) (by decide) (t := (.array .int)) (t' := .int) (by decide) (by decide))))
      have F_81 : Fld Z h67 o0 "com/example/futures_from_states/futuresfromstates/model/Choices" "replayed" "I" (.int rep) := (F_replayed_o0.other W67 (Or.inr (slot_ne (Or.inl (hw _ (List.mem_of_getElem? (i := 22) rfl))) (Or.inl (hw _ (List.mem_of_getElem? (i := 20) rfl))) (by decide) (t := .int) (t' := .int) (by decide) (by decide))))
      have V_82 : Arv Z h67 cb kt .int (16 : Int32) vt (.int (0 : Int32)) := (V_cb.other W67 (Ne.symm ne_o0_cb))
      refine ⟨_, _, K70.trans (retOut X67 hx Bd.returns rfl (Or.inl ⟨rfl, Or.inl rfl, _, rfl⟩) (hb hby d3_110) hr), hrun, hended, _, _, rfl, ?_, ⟨_, rfl⟩, hW, hsame.mono (by decide) (by first | decide | omega)⟩
      show Q_rm3 Z o0 p1 ca cb kc kt vc vt made rep h0 n0 _ T67.heap _
      rw [e67]
      exact ⟨(by unfold f_rm3; rw [if_neg hc2, if_neg hc15]), N67, K_77, E_78, F_79, F_80, (by unfold u_rm3_3; rw [if_neg hc2]; exact Fw67), (by unfold u_rm3_4; rw [if_neg hc2, if_neg hc15]; exact F_81), (by unfold u_rm3_5; rw [if_neg hc2, if_neg hc15]; exact V_69), (by unfold u_rm3_6; rw [if_neg hc2, if_neg hc15]; exact V_82)⟩
theorem d5_0 : decode prog_50_method_3_code 0 = .ok (.aload_n 0, 1) := by decide +kernel
theorem d5_1 : decode prog_50_method_3_code 1 = .ok (.getfield 16, 3) := by decide +kernel
theorem d5_4 : decode prog_50_method_3_code 4 = .ok (.istore_n 1, 1) := by decide +kernel
theorem d5_5 : decode prog_50_method_3_code 5 = .ok (.iload_n 1, 1) := by decide +kernel
theorem d5_6 : decode prog_50_method_3_code 6 = .ok (.ifCond .le 30, 3) := by decide +kernel
theorem d5_9 : decode prog_50_method_3_code 9 = .ok (.aload_n 0, 1) := by decide +kernel
theorem d5_10 : decode prog_50_method_3_code 10 = .ok (.getfield 7, 3) := by decide +kernel
theorem d5_13 : decode prog_50_method_3_code 13 = .ok (.iload_n 1, 1) := by decide +kernel
theorem d5_14 : decode prog_50_method_3_code 14 = .ok (.iconst 1, 1) := by decide +kernel
theorem d5_15 : decode prog_50_method_3_code 15 = .ok (.isub, 1) := by decide +kernel
theorem d5_16 : decode prog_50_method_3_code 16 = .ok (.iaload, 1) := by decide +kernel
theorem d5_17 : decode prog_50_method_3_code 17 = .ok (.aload_n 0, 1) := by decide +kernel
theorem d5_18 : decode prog_50_method_3_code 18 = .ok (.getfield 13, 3) := by decide +kernel
theorem d5_21 : decode prog_50_method_3_code 21 = .ok (.iload_n 1, 1) := by decide +kernel
theorem d5_22 : decode prog_50_method_3_code 22 = .ok (.iconst 1, 1) := by decide +kernel
theorem d5_23 : decode prog_50_method_3_code 23 = .ok (.isub, 1) := by decide +kernel
theorem d5_24 : decode prog_50_method_3_code 24 = .ok (.iaload, 1) := by decide +kernel
theorem d5_25 : decode prog_50_method_3_code 25 = .ok (.iconst 1, 1) := by decide +kernel
theorem d5_26 : decode prog_50_method_3_code 26 = .ok (.isub, 1) := by decide +kernel
theorem d5_27 : decode prog_50_method_3_code 27 = .ok (.if_icmp .ne 9, 3) := by decide +kernel
theorem d5_30 : decode prog_50_method_3_code 30 = .ok (.iinc 1 (-1), 3) := by decide +kernel
theorem d5_33 : decode prog_50_method_3_code 33 = .ok (.goto (-28), 3) := by decide +kernel
theorem d5_36 : decode prog_50_method_3_code 36 = .ok (.iload_n 1, 1) := by decide +kernel
theorem d5_37 : decode prog_50_method_3_code 37 = .ok (.ifCond .le 15, 3) := by decide +kernel
theorem d5_52 : decode prog_50_method_3_code 52 = .ok (.aload_n 0, 1) := by decide +kernel
theorem d5_53 : decode prog_50_method_3_code 53 = .ok (.iload_n 1, 1) := by decide +kernel
theorem d5_54 : decode prog_50_method_3_code 54 = .ok (.putfield 20, 3) := by decide +kernel
theorem d5_57 : decode prog_50_method_3_code 57 = .ok (.aload_n 0, 1) := by decide +kernel
theorem d5_58 : decode prog_50_method_3_code 58 = .ok (.iconst 0, 1) := by decide +kernel
theorem d5_59 : decode prog_50_method_3_code 59 = .ok (.putfield 16, 3) := by decide +kernel
theorem d5_62 : decode prog_50_method_3_code 62 = .ok (.iload_n 1, 1) := by decide +kernel
theorem d5_63 : decode prog_50_method_3_code 63 = .ok (.ifCond .le 7, 3) := by decide +kernel
theorem d5_70 : decode prog_50_method_3_code 70 = .ok (.iconst 0, 1) := by decide +kernel
theorem d5_40 : decode prog_50_method_3_code 40 = .ok (.aload_n 0, 1) := by decide +kernel
theorem d5_41 : decode prog_50_method_3_code 41 = .ok (.getfield 7, 3) := by decide +kernel
theorem d5_44 : decode prog_50_method_3_code 44 = .ok (.iload_n 1, 1) := by decide +kernel
theorem d5_45 : decode prog_50_method_3_code 45 = .ok (.iconst 1, 1) := by decide +kernel
theorem d5_46 : decode prog_50_method_3_code 46 = .ok (.isub, 1) := by decide +kernel
theorem d5_47 : decode prog_50_method_3_code 47 = .ok (.dup2, 1) := by decide +kernel
theorem d5_48 : decode prog_50_method_3_code 48 = .ok (.iaload, 1) := by decide +kernel
theorem d5_49 : decode prog_50_method_3_code 49 = .ok (.iconst 1, 1) := by decide +kernel
theorem d5_50 : decode prog_50_method_3_code 50 = .ok (.iadd, 1) := by decide +kernel
theorem d5_51 : decode prog_50_method_3_code 51 = .ok (.iastore, 1) := by decide +kernel
theorem d5_66 : decode prog_50_method_3_code 66 = .ok (.iconst 1, 1) := by decide +kernel
theorem d5_67 : decode prog_50_method_3_code 67 = .ok (.goto 4, 3) := by decide +kernel
def u_rm5_4 (vc : List Value) (vt : List Value) (made : Int32) : Int32 := (if made = (2 : Int32) then (if (own_by vc (1 : Int32)) = ((own_by vt (1 : Int32)) - (1 : Int32)) then (if (own_by vc (0 : Int32)) = ((own_by vt (0 : Int32)) - (1 : Int32)) then (0 : Int32) else (1 : Int32)) else (2 : Int32)) else (if made = (1 : Int32) then (if (own_by vc (0 : Int32)) = ((own_by vt (0 : Int32)) - (1 : Int32)) then (0 : Int32) else (1 : Int32)) else (0 : Int32)))
def u_rm5_5 (vc : List Value) (vt : List Value) (made : Int32) : List Value := (if made = (2 : Int32) then (if (own_by vc (1 : Int32)) = ((own_by vt (1 : Int32)) - (1 : Int32)) then (if (own_by vc (0 : Int32)) = ((own_by vt (0 : Int32)) - (1 : Int32)) then vc else (vc.set 0 (.int ((own_by vc (0 : Int32)) + (1 : Int32))))) else (vc.set 1 (.int ((own_by vc (1 : Int32)) + (1 : Int32))))) else (if made = (1 : Int32) then (if (own_by vc (0 : Int32)) = ((own_by vt (0 : Int32)) - (1 : Int32)) then vc else (vc.set 0 (.int ((own_by vc (0 : Int32)) + (1 : Int32))))) else vc))
def f_rm5 (vc : List Value) (vt : List Value) (made : Int32) : Int32 := (if made = (2 : Int32) then (if (own_by vc (1 : Int32)) = ((own_by vt (1 : Int32)) - (1 : Int32)) then (if (own_by vc (0 : Int32)) = ((own_by vt (0 : Int32)) - (1 : Int32)) then ((0 : Int32) &&& 1) else ((1 : Int32) &&& 1)) else ((1 : Int32) &&& 1)) else (if made = (1 : Int32) then (if (own_by vc (0 : Int32)) = ((own_by vt (0 : Int32)) - (1 : Int32)) then ((0 : Int32) &&& 1) else ((1 : Int32) &&& 1)) else ((0 : Int32) &&& 1)))
def Q_rm5 (Z : State) (o0 : Addr) (ca : Addr) (cb : Addr) (kc : ClassId) (kt : ClassId) (vc : List Value) (vt : List Value) (made : Int32) (rep : Int32) (h0 : Heap) (n0 : Nat) (v : Option Value) (h : Heap) (L : List Loc) : Prop := v = some (.int (f_rm5 vc vt made)) ∧ Fr n0 L ∧ Keep h0 h [o0, ca] ∧ Exa Z h o0 "com/example/futures_from_states/futuresfromstates/model/Choices" ∧ Fld Z h o0 "com/example/futures_from_states/futuresfromstates/model/Choices" "chosen" "[I" (.ref ca) ∧ Fld Z h o0 "com/example/futures_from_states/futuresfromstates/model/Choices" "counts" "[I" (.ref cb) ∧ Fld Z h o0 "com/example/futures_from_states/futuresfromstates/model/Choices" "made" "I" (.int (0 : Int32)) ∧ Fld Z h o0 "com/example/futures_from_states/futuresfromstates/model/Choices" "replayed" "I" (.int (u_rm5_4 vc vt made)) ∧ Arv Z h ca kc .int (16 : Int32) (u_rm5_5 vc vt made) (.int (0 : Int32))
theorem pn_5 : plainName "com/example/futures_from_states/futuresfromstates/model/Choices" = true := by first | (simp [plainName, overriddenIn]; done) | decide +kernel
theorem ef_5 (m : MethodId) (x0 : Addr) : entryFrame m #[(.ref x0)] 2 = mkF m 0 #[.val (.ref x0), .unset] [] := by first | (simp [entryFrame, mkF, argsToLocals, Value.category]; done) | rfl
theorem d5_71 : decode prog_50_method_3_code 71 = .ok (.ireturn, 1) := by decide +kernel
set_option maxRecDepth 65536 in
set_option maxHeartbeats 40000000 in
theorem rm5 (l : Launch) (Z : State) (a0 : Array Value) (hw : ∀ d ∈ tables_1, d.before a0 Z = true) (ws : List Jvm.Cond) (o0 : Addr) (ca : Addr) (cb : Addr) (kc : ClassId) (kt : ClassId) (vc : List Value) (vt : List Value) (made : Int32) (rep : Int32) (h0 : Heap) (n0 : Nat) (Z0 : n0 ≤ h0.size) (E_o0 : Exa Z h0 o0 "com/example/futures_from_states/futuresfromstates/model/Choices") (F_chosen_o0 : Fld Z h0 o0 "com/example/futures_from_states/futuresfromstates/model/Choices" "chosen" "[I" (.ref ca)) (F_counts_o0 : Fld Z h0 o0 "com/example/futures_from_states/futuresfromstates/model/Choices" "counts" "[I" (.ref cb)) (F_made_o0 : Fld Z h0 o0 "com/example/futures_from_states/futuresfromstates/model/Choices" "made" "I" (.int made)) (F_replayed_o0 : Fld Z h0 o0 "com/example/futures_from_states/futuresfromstates/model/Choices" "replayed" "I" (.int rep)) (V_ca : Arv Z h0 ca kc .int (16 : Int32) vc (.int (0 : Int32))) (V_cb : Arv Z h0 cb kt .int (16 : Int32) vt (.int (0 : Int32))) (ne_o0_ca : o0 ≠ ca) (ne_o0_cb : o0 ≠ cb) (ne_ca_cb : ca ≠ cb) (g_o0 : n0 ≤ o0) (g_ca : n0 ≤ ca) (hI : own_iv 2 made vc vt) :
    MetFree l (⟨"com/example/futures_from_states/futuresfromstates/model/Choices", "next", "()Z"⟩ : MethodName) (head1 (Jvm.Cond.code (⟨"com/example/futures_from_states/futuresfromstates/model/Choices", "next", "()Z"⟩ : MethodName) prog_50_method_3_code 2 (some .boolean) :: ws) ({ frames := 0, cells := 0, slots := 0, locals := 0 } : Room)) (fun a U => a = #[(.ref o0)] ∧ Z.Warmed39 U.vm ∧ U.heap = h0) (fun _ _ _ _ _ => True) (fun _ U o U' => ∃ v L, o = .returned v ∧ Q_rm5 Z o0 ca cb kc kt vc vt made rep h0 n0 v U'.heap L ∧ FrameEnd U o U' L ({ frames := 0, cells := 0, slots := 0, locals := 0 } : Room).cells ({ frames := 0, cells := 0, slots := 0, locals := 0 } : Room).slots) := by
  refine MetFree.of_bodySF (plainFor_of_name pn_5) hisR ?_
  intro p e s m args below meth c s₁ Bd hml0 hP hK
  obtain ⟨rfl, hZ, hh⟩ := hP
  have hx := Bd.exec
  have hby := Bd.bytes
  have hml : c.maxLocals = 2 := hml0
  have hown : s.vm.findClass "com/example/futures_from_states/futuresfromstates/model/Choices" = some m.cls := findClass_of_methodNamed Bd.named
  have hnm := (name_of_methodNamed Bd.named Bd.method).1
  have X0 : Stand p l e ({ frames := 0, cells := 0, slots := 0, locals := 0 } : Room) s m #[(.ref o0)] below meth c s₁ [] 0 0 := Stand.of_body Bd
  have e0 : s₁.heap = h0 := by rw [← hh, Bd.state]; rfl
  have N0 := Fr.nil n0
  have Kp0 : Keep h0 h0 [o0, ca] := Keep.refl _ _
  have K0 : Steps p.tables e below (s₁.setTop (entryFrame m #[(.ref o0)] 2)) (s₁.setTop (mkF m 0 #[.val (.ref o0), .unset] [])) := castTop (ef_5 m o0) (Steps.refl _)
  have K1 : Steps p.tables e below _ (s₁.setTop (mkF m 1 #[.val (.ref o0), .unset] [(.ref o0)])) := K0.trans (by
    show Steps p.tables e below (s₁.setTop (mkF m 0 #[.val (.ref o0), .unset] [])) _
    refine XS.aloadN X0.here hx rfl (hb hby d5_0) rfl rfl ?_
    show Steps p.tables e below (s₁.setTop (mkF m 1 #[.val (.ref o0), .unset] [(.ref o0)])) _
    exact Steps.refl _)
  obtain ⟨T2, X2, e2, st2⟩ := getF X0 hx hZ hown (host := "") (Or.inl (hw _ (List.mem_of_getElem? (i := 19) rfl))) Via.refl e0 F_made_o0 (g := (mkF m 1 #[.val (.ref o0), .unset] [(.ref o0)])) rfl rfl (hb hby d5_1)
  have K3 : Steps p.tables e below _ (T2.setTop (mkF m 4 #[.val (.ref o0), .unset] [(.int made)])) := K1.trans (st2 _ (Steps.refl _))
  have K4 : Steps p.tables e below _ (T2.setTop (mkF m 5 #[.val (.ref o0), .val (.int made)] [])) := K3.trans (by
    show Steps p.tables e below (T2.setTop (mkF m 4 #[.val (.ref o0), .unset] [(.int made)])) _
    refine XS.istoreN X2.here hx rfl (hb hby d5_4) rfl (l' := #[.val (.ref o0), .val (.int made)]) rfl ?_
    show Steps p.tables e below (T2.setTop (mkF m 5 #[.val (.ref o0), .val (.int made)] [])) _
    exact Steps.refl _)
  by_cases hm2 : made = (2 : Int32)
  · rw [hm2] at K4
    have K5 : Steps p.tables e below _ (T2.setTop (mkF m 10 #[.val (.ref o0), .val (.int (2 : Int32))] [(.ref o0)])) := K4.trans (by
      show Steps p.tables e below (T2.setTop (mkF m 5 #[.val (.ref o0), .val (.int (2 : Int32))] [])) _
      refine XS.iloadN X2.here hx rfl (hb hby d5_5) rfl ?_
      show Steps p.tables e below (T2.setTop (mkF m 6 #[.val (.ref o0), .val (.int (2 : Int32))] [(.int (2 : Int32))])) _
      refine XS.ifNo X2.here hx rfl (hb hby d5_6) rfl ((if0 _ _).trans (tlt (by decide : (0 : Int32) < (2 : Int32))).2.2.2) ?_
      show Steps p.tables e below (T2.setTop (mkF m 9 #[.val (.ref o0), .val (.int (2 : Int32))] [])) _
      refine XS.aloadN X2.here hx rfl (hb hby d5_9) rfl rfl ?_
      show Steps p.tables e below (T2.setTop (mkF m 10 #[.val (.ref o0), .val (.int (2 : Int32))] [(.ref o0)])) _
      exact Steps.refl _)
    obtain ⟨T6, X6, e6, st6⟩ := getF X2 hx hZ hown (host := "") (Or.inl (hw _ (List.mem_of_getElem? (i := 10) rfl))) Via.refl e2 F_chosen_o0 (g := (mkF m 10 #[.val (.ref o0), .val (.int (2 : Int32))] [(.ref o0)])) rfl rfl (hb hby d5_10)
    have K7 : Steps p.tables e below _ (T6.setTop (mkF m 13 #[.val (.ref o0), .val (.int (2 : Int32))] [(.ref ca)])) := K5.trans (st6 _ (Steps.refl _))
    have K8 : Steps p.tables e below _ (T6.setTop (mkF m 18 #[.val (.ref o0), .val (.int (2 : Int32))] [(.ref o0), (.int (own_by vc (1 : Int32)))])) := K7.trans (by
      show Steps p.tables e below (T6.setTop (mkF m 13 #[.val (.ref o0), .val (.int (2 : Int32))] [(.ref ca)])) _
      refine XS.iloadN X6.here hx rfl (hb hby d5_13) rfl ?_
      show Steps p.tables e below (T6.setTop (mkF m 14 #[.val (.ref o0), .val (.int (2 : Int32))] [(.int (2 : Int32)), (.ref ca)])) _
      refine XS.iconst X6.here hx rfl (hb hby d5_14) ?_
      show Steps p.tables e below (T6.setTop (mkF m 15 #[.val (.ref o0), .val (.int (2 : Int32))] [(.int (1 : Int32)), (.int (2 : Int32)), (.ref ca)])) _
      refine XS.isub X6.here hx rfl (hb hby d5_15) rfl ?_
      show Steps p.tables e below (T6.setTop (mkF m 16 #[.val (.ref o0), .val (.int (2 : Int32))] [(.int (1 : Int32)), (.ref ca)])) _
      refine (own_ldI X6 hx hZ e6 V_ca (j := (1 : Int32)) ⟨by decide, by decide⟩ (hI.2.2.1 _) (g := (mkF m 16 #[.val (.ref o0), .val (.int (2 : Int32))] [(.int (1 : Int32)), (.ref ca)])) rfl rfl (hb hby d5_16)).trans ?_
      show Steps p.tables e below (T6.setTop (mkF m 17 #[.val (.ref o0), .val (.int (2 : Int32))] [(.int (own_by vc (1 : Int32)))])) _
      refine XS.aloadN X6.here hx rfl (hb hby d5_17) rfl rfl ?_
      show Steps p.tables e below (T6.setTop (mkF m 18 #[.val (.ref o0), .val (.int (2 : Int32))] [(.ref o0), (.int (own_by vc (1 : Int32)))])) _
      exact Steps.refl _)
    obtain ⟨T9, X9, e9, st9⟩ := getF X6 hx hZ hown (host := "") (Or.inl (hw _ (List.mem_of_getElem? (i := 12) rfl))) Via.refl e6 F_counts_o0 (g := (mkF m 18 #[.val (.ref o0), .val (.int (2 : Int32))] [(.ref o0), (.int (own_by vc (1 : Int32)))])) rfl rfl (hb hby d5_18)
    have K10 : Steps p.tables e below _ (T9.setTop (mkF m 21 #[.val (.ref o0), .val (.int (2 : Int32))] [(.ref cb), (.int (own_by vc (1 : Int32)))])) := K8.trans (st9 _ (Steps.refl _))
    have K11 : Steps p.tables e below _ (T9.setTop (mkF m 27 #[.val (.ref o0), .val (.int (2 : Int32))] [(.int ((own_by vt (1 : Int32)) - (1 : Int32))), (.int (own_by vc (1 : Int32)))])) := K10.trans (by
      show Steps p.tables e below (T9.setTop (mkF m 21 #[.val (.ref o0), .val (.int (2 : Int32))] [(.ref cb), (.int (own_by vc (1 : Int32)))])) _
      refine XS.iloadN X9.here hx rfl (hb hby d5_21) rfl ?_
      show Steps p.tables e below (T9.setTop (mkF m 22 #[.val (.ref o0), .val (.int (2 : Int32))] [(.int (2 : Int32)), (.ref cb), (.int (own_by vc (1 : Int32)))])) _
      refine XS.iconst X9.here hx rfl (hb hby d5_22) ?_
      show Steps p.tables e below (T9.setTop (mkF m 23 #[.val (.ref o0), .val (.int (2 : Int32))] [(.int (1 : Int32)), (.int (2 : Int32)), (.ref cb), (.int (own_by vc (1 : Int32)))])) _
      refine XS.isub X9.here hx rfl (hb hby d5_23) rfl ?_
      show Steps p.tables e below (T9.setTop (mkF m 24 #[.val (.ref o0), .val (.int (2 : Int32))] [(.int (1 : Int32)), (.ref cb), (.int (own_by vc (1 : Int32)))])) _
      refine (own_ldI X9 hx hZ e9 V_cb (j := (1 : Int32)) ⟨by decide, by decide⟩ (hI.2.2.2 _) (g := (mkF m 24 #[.val (.ref o0), .val (.int (2 : Int32))] [(.int (1 : Int32)), (.ref cb), (.int (own_by vc (1 : Int32)))])) rfl rfl (hb hby d5_24)).trans ?_
      show Steps p.tables e below (T9.setTop (mkF m 25 #[.val (.ref o0), .val (.int (2 : Int32))] [(.int (own_by vt (1 : Int32))), (.int (own_by vc (1 : Int32)))])) _
      refine XS.iconst X9.here hx rfl (hb hby d5_25) ?_
      show Steps p.tables e below (T9.setTop (mkF m 26 #[.val (.ref o0), .val (.int (2 : Int32))] [(.int (1 : Int32)), (.int (own_by vt (1 : Int32))), (.int (own_by vc (1 : Int32)))])) _
      refine XS.isub X9.here hx rfl (hb hby d5_26) rfl ?_
      show Steps p.tables e below (T9.setTop (mkF m 27 #[.val (.ref o0), .val (.int (2 : Int32))] [(.int ((own_by vt (1 : Int32)) - (1 : Int32))), (.int (own_by vc (1 : Int32)))])) _
      exact Steps.refl _)
    by_cases hc27 : (own_by vc (1 : Int32)) = ((own_by vt (1 : Int32)) - (1 : Int32))
    · have K12 : Steps p.tables e below _ (T9.setTop (mkF m 10 #[.val (.ref o0), .val (.int (1 : Int32))] [(.ref o0)])) := K11.trans (by
        show Steps p.tables e below (T9.setTop (mkF m 27 #[.val (.ref o0), .val (.int (2 : Int32))] [(.int ((own_by vt (1 : Int32)) - (1 : Int32))), (.int (own_by vc (1 : Int32)))])) _
        refine XS.icmpNo X9.here hx rfl (hb hby d5_27) rfl (teq hc27).2 ?_
        show Steps p.tables e below (T9.setTop (mkF m 30 #[.val (.ref o0), .val (.int (2 : Int32))] [])) _
        refine XS.iinc X9.here hx rfl (hb hby d5_30) rfl (l' := #[.val (.ref o0), .val (.int (1 : Int32))]) rfl ?_
        show Steps p.tables e below (T9.setTop (mkF m 33 #[.val (.ref o0), .val (.int (1 : Int32))] [])) _
        refine XS.goto X9.here hx rfl (pc0 := 33) (pc' := 5) rfl (hb hby d5_33) (by decide) (by decide) ?_
        show Steps p.tables e below (T9.setTop (mkF m 5 #[.val (.ref o0), .val (.int (1 : Int32))] [])) _
        refine XS.iloadN X9.here hx rfl (hb hby d5_5) rfl ?_
        show Steps p.tables e below (T9.setTop (mkF m 6 #[.val (.ref o0), .val (.int (1 : Int32))] [(.int (1 : Int32))])) _
        refine XS.ifNo X9.here hx rfl (hb hby d5_6) rfl ((if0 _ _).trans (tlt (by decide : (0 : Int32) < (1 : Int32))).2.2.2) ?_
        show Steps p.tables e below (T9.setTop (mkF m 9 #[.val (.ref o0), .val (.int (1 : Int32))] [])) _
        refine XS.aloadN X9.here hx rfl (hb hby d5_9) rfl rfl ?_
        show Steps p.tables e below (T9.setTop (mkF m 10 #[.val (.ref o0), .val (.int (1 : Int32))] [(.ref o0)])) _
        exact Steps.refl _)
      obtain ⟨T13, X13, e13, st13⟩ := getF X9 hx hZ hown (host := "") (Or.inl (hw _ (List.mem_of_getElem? (i := 10) rfl))) Via.refl e9 F_chosen_o0 (g := (mkF m 10 #[.val (.ref o0), .val (.int (1 : Int32))] [(.ref o0)])) rfl rfl (hb hby d5_10)
      have K14 : Steps p.tables e below _ (T13.setTop (mkF m 13 #[.val (.ref o0), .val (.int (1 : Int32))] [(.ref ca)])) := K12.trans (st13 _ (Steps.refl _))
      have K15 : Steps p.tables e below _ (T13.setTop (mkF m 18 #[.val (.ref o0), .val (.int (1 : Int32))] [(.ref o0), (.int (own_by vc (0 : Int32)))])) := K14.trans (by
        show Steps p.tables e below (T13.setTop (mkF m 13 #[.val (.ref o0), .val (.int (1 : Int32))] [(.ref ca)])) _
        refine XS.iloadN X13.here hx rfl (hb hby d5_13) rfl ?_
        show Steps p.tables e below (T13.setTop (mkF m 14 #[.val (.ref o0), .val (.int (1 : Int32))] [(.int (1 : Int32)), (.ref ca)])) _
        refine XS.iconst X13.here hx rfl (hb hby d5_14) ?_
        show Steps p.tables e below (T13.setTop (mkF m 15 #[.val (.ref o0), .val (.int (1 : Int32))] [(.int (1 : Int32)), (.int (1 : Int32)), (.ref ca)])) _
        refine XS.isub X13.here hx rfl (hb hby d5_15) rfl ?_
        show Steps p.tables e below (T13.setTop (mkF m 16 #[.val (.ref o0), .val (.int (1 : Int32))] [(.int (0 : Int32)), (.ref ca)])) _
        refine (own_ldI X13 hx hZ e13 V_ca (j := (0 : Int32)) ⟨by decide, by decide⟩ (hI.2.2.1 _) (g := (mkF m 16 #[.val (.ref o0), .val (.int (1 : Int32))] [(.int (0 : Int32)), (.ref ca)])) rfl rfl (hb hby d5_16)).trans ?_
        show Steps p.tables e below (T13.setTop (mkF m 17 #[.val (.ref o0), .val (.int (1 : Int32))] [(.int (own_by vc (0 : Int32)))])) _
        refine XS.aloadN X13.here hx rfl (hb hby d5_17) rfl rfl ?_
        show Steps p.tables e below (T13.setTop (mkF m 18 #[.val (.ref o0), .val (.int (1 : Int32))] [(.ref o0), (.int (own_by vc (0 : Int32)))])) _
        exact Steps.refl _)
      obtain ⟨T16, X16, e16, st16⟩ := getF X13 hx hZ hown (host := "") (Or.inl (hw _ (List.mem_of_getElem? (i := 12) rfl))) Via.refl e13 F_counts_o0 (g := (mkF m 18 #[.val (.ref o0), .val (.int (1 : Int32))] [(.ref o0), (.int (own_by vc (0 : Int32)))])) rfl rfl (hb hby d5_18)
      have K17 : Steps p.tables e below _ (T16.setTop (mkF m 21 #[.val (.ref o0), .val (.int (1 : Int32))] [(.ref cb), (.int (own_by vc (0 : Int32)))])) := K15.trans (st16 _ (Steps.refl _))
      have K18 : Steps p.tables e below _ (T16.setTop (mkF m 27 #[.val (.ref o0), .val (.int (1 : Int32))] [(.int ((own_by vt (0 : Int32)) - (1 : Int32))), (.int (own_by vc (0 : Int32)))])) := K17.trans (by
        show Steps p.tables e below (T16.setTop (mkF m 21 #[.val (.ref o0), .val (.int (1 : Int32))] [(.ref cb), (.int (own_by vc (0 : Int32)))])) _
        refine XS.iloadN X16.here hx rfl (hb hby d5_21) rfl ?_
        show Steps p.tables e below (T16.setTop (mkF m 22 #[.val (.ref o0), .val (.int (1 : Int32))] [(.int (1 : Int32)), (.ref cb), (.int (own_by vc (0 : Int32)))])) _
        refine XS.iconst X16.here hx rfl (hb hby d5_22) ?_
        show Steps p.tables e below (T16.setTop (mkF m 23 #[.val (.ref o0), .val (.int (1 : Int32))] [(.int (1 : Int32)), (.int (1 : Int32)), (.ref cb), (.int (own_by vc (0 : Int32)))])) _
        refine XS.isub X16.here hx rfl (hb hby d5_23) rfl ?_
        show Steps p.tables e below (T16.setTop (mkF m 24 #[.val (.ref o0), .val (.int (1 : Int32))] [(.int (0 : Int32)), (.ref cb), (.int (own_by vc (0 : Int32)))])) _
        refine (own_ldI X16 hx hZ e16 V_cb (j := (0 : Int32)) ⟨by decide, by decide⟩ (hI.2.2.2 _) (g := (mkF m 24 #[.val (.ref o0), .val (.int (1 : Int32))] [(.int (0 : Int32)), (.ref cb), (.int (own_by vc (0 : Int32)))])) rfl rfl (hb hby d5_24)).trans ?_
        show Steps p.tables e below (T16.setTop (mkF m 25 #[.val (.ref o0), .val (.int (1 : Int32))] [(.int (own_by vt (0 : Int32))), (.int (own_by vc (0 : Int32)))])) _
        refine XS.iconst X16.here hx rfl (hb hby d5_25) ?_
        show Steps p.tables e below (T16.setTop (mkF m 26 #[.val (.ref o0), .val (.int (1 : Int32))] [(.int (1 : Int32)), (.int (own_by vt (0 : Int32))), (.int (own_by vc (0 : Int32)))])) _
        refine XS.isub X16.here hx rfl (hb hby d5_26) rfl ?_
        show Steps p.tables e below (T16.setTop (mkF m 27 #[.val (.ref o0), .val (.int (1 : Int32))] [(.int ((own_by vt (0 : Int32)) - (1 : Int32))), (.int (own_by vc (0 : Int32)))])) _
        exact Steps.refl _)
      by_cases hc27b : (own_by vc (0 : Int32)) = ((own_by vt (0 : Int32)) - (1 : Int32))
      · have K19 : Steps p.tables e below _ (T16.setTop (mkF m 54 #[.val (.ref o0), .val (.int (0 : Int32))] [(.int (0 : Int32)), (.ref o0)])) := K18.trans (by
          show Steps p.tables e below (T16.setTop (mkF m 27 #[.val (.ref o0), .val (.int (1 : Int32))] [(.int ((own_by vt (0 : Int32)) - (1 : Int32))), (.int (own_by vc (0 : Int32)))])) _
          refine XS.icmpNo X16.here hx rfl (hb hby d5_27) rfl (teq hc27b).2 ?_
          show Steps p.tables e below (T16.setTop (mkF m 30 #[.val (.ref o0), .val (.int (1 : Int32))] [])) _
          refine XS.iinc X16.here hx rfl (hb hby d5_30) rfl (l' := #[.val (.ref o0), .val (.int (0 : Int32))]) rfl ?_
          show Steps p.tables e below (T16.setTop (mkF m 33 #[.val (.ref o0), .val (.int (0 : Int32))] [])) _
          refine XS.goto X16.here hx rfl (pc0 := 33) (pc' := 5) rfl (hb hby d5_33) (by decide) (by decide) ?_
          show Steps p.tables e below (T16.setTop (mkF m 5 #[.val (.ref o0), .val (.int (0 : Int32))] [])) _
          refine XS.iloadN X16.here hx rfl (hb hby d5_5) rfl ?_
          show Steps p.tables e below (T16.setTop (mkF m 6 #[.val (.ref o0), .val (.int (0 : Int32))] [(.int (0 : Int32))])) _
          refine XS.ifYes X16.here hx rfl (pc0 := 6) (pc' := 36) rfl (hb hby d5_6) rfl ((if0 _ _).trans (flt (by decide : ¬ ((0 : Int32) < (0 : Int32)))).2.2.2) (by decide) (by decide) ?_
          show Steps p.tables e below (T16.setTop (mkF m 36 #[.val (.ref o0), .val (.int (0 : Int32))] [])) _
          refine XS.iloadN X16.here hx rfl (hb hby d5_36) rfl ?_
          show Steps p.tables e below (T16.setTop (mkF m 37 #[.val (.ref o0), .val (.int (0 : Int32))] [(.int (0 : Int32))])) _
          refine XS.ifYes X16.here hx rfl (pc0 := 37) (pc' := 52) rfl (hb hby d5_37) rfl ((if0 _ _).trans (flt (by decide : ¬ ((0 : Int32) < (0 : Int32)))).2.2.2) (by decide) (by decide) ?_
          show Steps p.tables e below (T16.setTop (mkF m 52 #[.val (.ref o0), .val (.int (0 : Int32))] [])) _
          refine XS.aloadN X16.here hx rfl (hb hby d5_52) rfl rfl ?_
          show Steps p.tables e below (T16.setTop (mkF m 53 #[.val (.ref o0), .val (.int (0 : Int32))] [(.ref o0)])) _
          refine XS.iloadN X16.here hx rfl (hb hby d5_53) rfl ?_
          show Steps p.tables e below (T16.setTop (mkF m 54 #[.val (.ref o0), .val (.int (0 : Int32))] [(.int (0 : Int32)), (.ref o0)])) _
          exact Steps.refl _)
        obtain ⟨T20, h20, X20, e20, W20, st20⟩ := putF X16 hx hZ hown (host := "") (Or.inl (hw _ (List.mem_of_getElem? (i := 21) rfl))) Via.refl e16 F_replayed_o0 E_o0 (Or.inl (hw _ (List.mem_of_getElem? (i := 22) rfl))) (hw _ (List.mem_of_getElem? (i := 1) rfl)) (ty := .int) (by decide) rfl rfl (g := (mkF m 54 #[.val (.ref o0), .val (.int (0 : Int32))] [(.int (0 : Int32)), (.ref o0)])) rfl rfl (hb hby d5_54)
        have K21 : Steps p.tables e below _ (T20.setTop (mkF m 57 #[.val (.ref o0), .val (.int (0 : Int32))] [])) := K19.trans (st20 _ (Steps.refl _))
        have Fw20 : Fld Z h20 o0 "com/example/futures_from_states/futuresfromstates/model/Choices" "replayed" "I" (.int (0 : Int32)) := F_replayed_o0.same W20
        have N20 := Fr.snoc X20 N0 g_o0
        have K22 : Steps p.tables e below _ (T20.setTop (mkF m 59 #[.val (.ref o0), .val (.int (0 : Int32))] [(.int (0 : Int32)), (.ref o0)])) := K21.trans (by
          show Steps p.tables e below (T20.setTop (mkF m 57 #[.val (.ref o0), .val (.int (0 : Int32))] [])) _
          refine XS.aloadN X20.here hx rfl (hb hby d5_57) rfl rfl ?_
          show Steps p.tables e below (T20.setTop (mkF m 58 #[.val (.ref o0), .val (.int (0 : Int32))] [(.ref o0)])) _
          refine XS.iconst X20.here hx rfl (hb hby d5_58) ?_
          show Steps p.tables e below (T20.setTop (mkF m 59 #[.val (.ref o0), .val (.int (0 : Int32))] [(.int (0 : Int32)), (.ref o0)])) _
          exact Steps.refl _)
        have E_23 : Exa Z h20 o0 "com/example/futures_from_states/futuresfromstates/model/Choices" := (E_o0.wr W20)
        have F_24 : Fld Z h20 o0 "com/example/futures_from_states/futuresfromstates/model/Choices" "made" "I" (.int made) := (F_made_o0.other W20 (Or.inr (slot_ne (Or.inl (hw _ (List.mem_of_getElem? (i := 20) rfl))) (Or.inl (hw _ (List.mem_of_getElem? (i := 22) rfl))) (by decide) (t := .int) (t' := .int) (by decide) (by decide))))
        obtain ⟨T25, h25, X25, e25, W25, st25⟩ := putF X20 hx hZ hown (host := "") (Or.inl (hw _ (List.mem_of_getElem? (i := 19) rfl))) Via.refl e20 F_24 E_23 (Or.inl (hw _ (List.mem_of_getElem? (i := 20) rfl))) (hw _ (List.mem_of_getElem? (i := 1) rfl)) (ty := .int) (by decide) rfl rfl (g := (mkF m 59 #[.val (.ref o0), .val (.int (0 : Int32))] [(.int (0 : Int32)), (.ref o0)])) rfl rfl (hb hby d5_59)
        have K26 : Steps p.tables e below _ (T25.setTop (mkF m 62 #[.val (.ref o0), .val (.int (0 : Int32))] [])) := K22.trans (st25 _ (Steps.refl _))
        have Fw25 : Fld Z h25 o0 "com/example/futures_from_states/futuresfromstates/model/Choices" "made" "I" (.int (0 : Int32)) := F_24.same W25
        have N25 := Fr.snoc X25 N20 g_o0
        have K27 : Steps p.tables e below _ (T25.setTop (mkF m 71 #[.val (.ref o0), .val (.int (0 : Int32))] [(.int (0 : Int32))])) := K26.trans (by
          show Steps p.tables e below (T25.setTop (mkF m 62 #[.val (.ref o0), .val (.int (0 : Int32))] [])) _
          refine XS.iloadN X25.here hx rfl (hb hby d5_62) rfl ?_
          show Steps p.tables e below (T25.setTop (mkF m 63 #[.val (.ref o0), .val (.int (0 : Int32))] [(.int (0 : Int32))])) _
          refine XS.ifYes X25.here hx rfl (pc0 := 63) (pc' := 70) rfl (hb hby d5_63) rfl ((if0 _ _).trans (flt (by decide : ¬ ((0 : Int32) < (0 : Int32)))).2.2.2) (by decide) (by decide) ?_
          show Steps p.tables e below (T25.setTop (mkF m 70 #[.val (.ref o0), .val (.int (0 : Int32))] [])) _
          refine XS.iconst X25.here hx rfl (hb hby d5_70) ?_
          show Steps p.tables e below (T25.setTop (mkF m 71 #[.val (.ref o0), .val (.int (0 : Int32))] [(.int (0 : Int32))])) _
          exact Steps.refl _)
        obtain ⟨fs, hr, hrun, hended, hW, hsame⟩ := X25.leave (v := some (.int ((0 : Int32) &&& 1))) (fun h => by rw [Bd.returns] at h; cases h)
        have K_104 : Keep h0 h25 [o0, ca] := ((Kp0.wr W20 (Or.inl (List.mem_of_getElem? (i := 0) rfl))).wr W25 (Or.inl (List.mem_of_getElem? (i := 0) rfl)))
        have E_105 : Exa Z h25 o0 "com/example/futures_from_states/futuresfromstates/model/Choices" := (E_23.wr W25)
        have F_106 : Fld Z h25 o0 "com/example/futures_from_states/futuresfromstates/model/Choices" "chosen" "[I" (.ref ca) := ((F_chosen_o0.other W20 (Or.inr (slot_ne (Or.inl (hw _ (List.mem_of_getElem? (i := 11) rfl))) (Or.inl (hw _ (List.mem_of_getElem? (i := 22) rfl))) (by decide) (t := (.array .int)) (t' := .int) (by decide) (by decide)))).other W25 (Or.inr (slot_ne (Or.inl (hw _ (List.mem_of_getElem? (i := 11) rfl))) (Or.inl (hw _ (List.mem_of_getElem? (i := 20) rfl))) (by decide) (t := (.array .int)) (t' := .int) (by decide) (by decide))))
        have F_107 : Fld Z h25 o0 "com/example/futures_from_states/futuresfromstates/model/Choices" "counts" "[I" (.ref cb) := ((F_counts_o0.other W20 (Or.inr (slot_ne (Or.inl (hw _ (List.mem_of_getElem? (i := 13) rfl))) (Or.inl (hw _ (List.mem_of_getElem? (i := 22) rfl))) (by decide) (t := (.array .int)) (t' := .int) (by decide) (by decide)))).other W25 (Or.inr (slot_ne (Or.inl (hw _ (List.mem_of_getElem? (i := 13) rfl))) (Or.inl (hw _ (List.mem_of_getElem? (i := 20) rfl))) (by decide) (t := (.array .int)) (t' := .int) (by decide) (by decide))))
        have F_108 : Fld Z h25 o0 "com/example/futures_from_states/futuresfromstates/model/Choices" "replayed" "I" (.int (0 : Int32)) := (Fw20.other W25 (Or.inr (slot_ne (Or.inl (hw _ (List.mem_of_getElem? (i := 22) rfl))) (Or.inl (hw _ (List.mem_of_getElem? (i := 20) rfl))) (by decide) (t := .int) (t' := .int) (by decide) (by decide))))
        have V_109 : Arv Z h25 ca kc .int (16 : Int32) vc (.int (0 : Int32)) := ((V_ca.other W20 (Ne.symm ne_o0_ca)).other W25 (Ne.symm ne_o0_ca))
        refine ⟨_, _, K27.trans (retN X25 hx (t := .boolean) Bd.returns (by simp) (hb hby d5_71) hr), hrun, hended, _, _, rfl, ?_, ⟨_, rfl⟩, hW, hsame.mono (by decide) (by first | decide | omega)⟩
        show Q_rm5 Z o0 ca cb kc kt vc vt made rep h0 n0 _ T25.heap _
        rw [e25]
        exact ⟨(by unfold f_rm5; rw [if_pos hm2, if_pos hc27, if_pos hc27b]), N25, K_104, E_105, F_106, F_107, Fw25, (by unfold u_rm5_4; rw [if_pos hm2, if_pos hc27, if_pos hc27b]; exact F_108), (by unfold u_rm5_5; rw [if_pos hm2, if_pos hc27, if_pos hc27b]; exact V_109)⟩
      · have K28 : Steps p.tables e below _ (T16.setTop (mkF m 41 #[.val (.ref o0), .val (.int (1 : Int32))] [(.ref o0)])) := K18.trans (by
          show Steps p.tables e below (T16.setTop (mkF m 27 #[.val (.ref o0), .val (.int (1 : Int32))] [(.int ((own_by vt (0 : Int32)) - (1 : Int32))), (.int (own_by vc (0 : Int32)))])) _
          refine XS.icmpYes X16.here hx rfl (pc0 := 27) (pc' := 36) rfl (hb hby d5_27) rfl (feq hc27b).2 (by decide) (by decide) ?_
          show Steps p.tables e below (T16.setTop (mkF m 36 #[.val (.ref o0), .val (.int (1 : Int32))] [])) _
          refine XS.iloadN X16.here hx rfl (hb hby d5_36) rfl ?_
          show Steps p.tables e below (T16.setTop (mkF m 37 #[.val (.ref o0), .val (.int (1 : Int32))] [(.int (1 : Int32))])) _
          refine XS.ifNo X16.here hx rfl (hb hby d5_37) rfl ((if0 _ _).trans (tlt (by decide : (0 : Int32) < (1 : Int32))).2.2.2) ?_
          show Steps p.tables e below (T16.setTop (mkF m 40 #[.val (.ref o0), .val (.int (1 : Int32))] [])) _
          refine XS.aloadN X16.here hx rfl (hb hby d5_40) rfl rfl ?_
          show Steps p.tables e below (T16.setTop (mkF m 41 #[.val (.ref o0), .val (.int (1 : Int32))] [(.ref o0)])) _
          exact Steps.refl _)
        obtain ⟨T29, X29, e29, st29⟩ := getF X16 hx hZ hown (host := "") (Or.inl (hw _ (List.mem_of_getElem? (i := 10) rfl))) Via.refl e16 F_chosen_o0 (g := (mkF m 41 #[.val (.ref o0), .val (.int (1 : Int32))] [(.ref o0)])) rfl rfl (hb hby d5_41)
        have K30 : Steps p.tables e below _ (T29.setTop (mkF m 44 #[.val (.ref o0), .val (.int (1 : Int32))] [(.ref ca)])) := K28.trans (st29 _ (Steps.refl _))
        have K31 : Steps p.tables e below _ (T29.setTop (mkF m 51 #[.val (.ref o0), .val (.int (1 : Int32))] [(.int ((own_by vc (0 : Int32)) + (1 : Int32))), (.int (0 : Int32)), (.ref ca)])) := K30.trans (by
          show Steps p.tables e below (T29.setTop (mkF m 44 #[.val (.ref o0), .val (.int (1 : Int32))] [(.ref ca)])) _
          refine XS.iloadN X29.here hx rfl (hb hby d5_44) rfl ?_
          show Steps p.tables e below (T29.setTop (mkF m 45 #[.val (.ref o0), .val (.int (1 : Int32))] [(.int (1 : Int32)), (.ref ca)])) _
          refine XS.iconst X29.here hx rfl (hb hby d5_45) ?_
          show Steps p.tables e below (T29.setTop (mkF m 46 #[.val (.ref o0), .val (.int (1 : Int32))] [(.int (1 : Int32)), (.int (1 : Int32)), (.ref ca)])) _
          refine XS.isub X29.here hx rfl (hb hby d5_46) rfl ?_
          show Steps p.tables e below (T29.setTop (mkF m 47 #[.val (.ref o0), .val (.int (1 : Int32))] [(.int (0 : Int32)), (.ref ca)])) _
          refine Jvm.Free.XT.dup2 X29.here hx rfl (hb hby d5_47) rfl rfl rfl ?_
          show Steps p.tables e below (T29.setTop (mkF m 48 #[.val (.ref o0), .val (.int (1 : Int32))] [(.int (0 : Int32)), (.ref ca), (.int (0 : Int32)), (.ref ca)])) _
          refine (own_ldI X29 hx hZ e29 V_ca (j := (0 : Int32)) ⟨by decide, by decide⟩ (hI.2.2.1 _) (g := (mkF m 48 #[.val (.ref o0), .val (.int (1 : Int32))] [(.int (0 : Int32)), (.ref ca), (.int (0 : Int32)), (.ref ca)])) rfl rfl (hb hby d5_48)).trans ?_
          show Steps p.tables e below (T29.setTop (mkF m 49 #[.val (.ref o0), .val (.int (1 : Int32))] [(.int (own_by vc (0 : Int32))), (.int (0 : Int32)), (.ref ca)])) _
          refine XS.iconst X29.here hx rfl (hb hby d5_49) ?_
          show Steps p.tables e below (T29.setTop (mkF m 50 #[.val (.ref o0), .val (.int (1 : Int32))] [(.int (1 : Int32)), (.int (own_by vc (0 : Int32))), (.int (0 : Int32)), (.ref ca)])) _
          refine XS.iadd X29.here hx rfl (hb hby d5_50) rfl ?_
          show Steps p.tables e below (T29.setTop (mkF m 51 #[.val (.ref o0), .val (.int (1 : Int32))] [(.int ((own_by vc (0 : Int32)) + (1 : Int32))), (.int (0 : Int32)), (.ref ca)])) _
          exact Steps.refl _)
        obtain ⟨T32, h32, X32, e32, W32, V32, st32⟩ := own_stI X29 hx hZ e29 V_ca (j := (0 : Int32)) ⟨by decide, by decide⟩ 0 rfl (by rw [hI.2.1.1]; decide) (g := (mkF m 51 #[.val (.ref o0), .val (.int (1 : Int32))] [(.int ((own_by vc (0 : Int32)) + (1 : Int32))), (.int (0 : Int32)), (.ref ca)])) rfl rfl (hb hby d5_51)
        have K33 : Steps p.tables e below _ (T32.setTop (mkF m 52 #[.val (.ref o0), .val (.int (1 : Int32))] [])) := K31.trans st32
        have Vw32 : Arv Z h32 ca kc .int (16 : Int32) (vc.set 0 (.int ((own_by vc (0 : Int32)) + (1 : Int32)))) (.int (0 : Int32)) := V32
        have N32 := Fr.snoc X32 N0 g_ca
        have K34 : Steps p.tables e below _ (T32.setTop (mkF m 54 #[.val (.ref o0), .val (.int (1 : Int32))] [(.int (1 : Int32)), (.ref o0)])) := K33.trans (by
          show Steps p.tables e below (T32.setTop (mkF m 52 #[.val (.ref o0), .val (.int (1 : Int32))] [])) _
          refine XS.aloadN X32.here hx rfl (hb hby d5_52) rfl rfl ?_
          show Steps p.tables e below (T32.setTop (mkF m 53 #[.val (.ref o0), .val (.int (1 : Int32))] [(.ref o0)])) _
          refine XS.iloadN X32.here hx rfl (hb hby d5_53) rfl ?_
          show Steps p.tables e below (T32.setTop (mkF m 54 #[.val (.ref o0), .val (.int (1 : Int32))] [(.int (1 : Int32)), (.ref o0)])) _
          exact Steps.refl _)
        have E_35 : Exa Z h32 o0 "com/example/futures_from_states/futuresfromstates/model/Choices" := (E_o0.wr W32)
        have F_36 : Fld Z h32 o0 "com/example/futures_from_states/futuresfromstates/model/Choices" "replayed" "I" (.int rep) := (F_replayed_o0.other W32 (Or.inl ne_o0_ca))
        obtain ⟨T37, h37, X37, e37, W37, st37⟩ := putF X32 hx hZ hown (host := "") (Or.inl (hw _ (List.mem_of_getElem? (i := 21) rfl))) Via.refl e32 F_36 E_35 (Or.inl (hw _ (List.mem_of_getElem? (i := 22) rfl))) (hw _ (List.mem_of_getElem? (i := 1) rfl)) (ty := .int) (by decide) rfl rfl (g := (mkF m 54 #[.val (.ref o0), .val (.int (1 : Int32))] [(.int (1 : Int32)), (.ref o0)])) rfl rfl (hb hby d5_54)
        have K38 : Steps p.tables e below _ (T37.setTop (mkF m 57 #[.val (.ref o0), .val (.int (1 : Int32))] [])) := K34.trans (st37 _ (Steps.refl _))
        have Fw37 : Fld Z h37 o0 "com/example/futures_from_states/futuresfromstates/model/Choices" "replayed" "I" (.int (1 : Int32)) := F_36.same W37
        have N37 := Fr.snoc X37 N32 g_o0
        have K39 : Steps p.tables e below _ (T37.setTop (mkF m 59 #[.val (.ref o0), .val (.int (1 : Int32))] [(.int (0 : Int32)), (.ref o0)])) := K38.trans (by
          show Steps p.tables e below (T37.setTop (mkF m 57 #[.val (.ref o0), .val (.int (1 : Int32))] [])) _
          refine XS.aloadN X37.here hx rfl (hb hby d5_57) rfl rfl ?_
          show Steps p.tables e below (T37.setTop (mkF m 58 #[.val (.ref o0), .val (.int (1 : Int32))] [(.ref o0)])) _
          refine XS.iconst X37.here hx rfl (hb hby d5_58) ?_
          show Steps p.tables e below (T37.setTop (mkF m 59 #[.val (.ref o0), .val (.int (1 : Int32))] [(.int (0 : Int32)), (.ref o0)])) _
          exact Steps.refl _)
        have E_40 : Exa Z h37 o0 "com/example/futures_from_states/futuresfromstates/model/Choices" := (E_35.wr W37)
        have F_41 : Fld Z h37 o0 "com/example/futures_from_states/futuresfromstates/model/Choices" "made" "I" (.int made) := ((F_made_o0.other W32 (Or.inl ne_o0_ca)).other W37 (Or.inr (slot_ne (Or.inl (hw _ (List.mem_of_getElem? (i := 20) rfl))) (Or.inl (hw _ (List.mem_of_getElem? (i := 22) rfl))) (by decide) (t := .int) (t' := .int) (by decide) (by decide))))
        obtain ⟨T42, h42, X42, e42, W42, st42⟩ := putF X37 hx hZ hown (host := "") (Or.inl (hw _ (List.mem_of_getElem? (i := 19) rfl))) Via.refl e37 F_41 E_40 (Or.inl (hw _ (List.mem_of_getElem? (i := 20) rfl))) (hw _ (List.mem_of_getElem? (i := 1) rfl)) (ty := .int) (by decide) rfl rfl (g := (mkF m 59 #[.val (.ref o0), .val (.int (1 : Int32))] [(.int (0 : Int32)), (.ref o0)])) rfl rfl (hb hby d5_59)
        have K43 : Steps p.tables e below _ (T42.setTop (mkF m 62 #[.val (.ref o0), .val (.int (1 : Int32))] [])) := K39.trans (st42 _ (Steps.refl _))
        have Fw42 : Fld Z h42 o0 "com/example/futures_from_states/futuresfromstates/model/Choices" "made" "I" (.int (0 : Int32)) := F_41.same W42
        have N42 := Fr.snoc X42 N37 g_o0
        have K44 : Steps p.tables e below _ (T42.setTop (mkF m 71 #[.val (.ref o0), .val (.int (1 : Int32))] [(.int (1 : Int32))])) := K43.trans (by
          show Steps p.tables e below (T42.setTop (mkF m 62 #[.val (.ref o0), .val (.int (1 : Int32))] [])) _
          refine XS.iloadN X42.here hx rfl (hb hby d5_62) rfl ?_
          show Steps p.tables e below (T42.setTop (mkF m 63 #[.val (.ref o0), .val (.int (1 : Int32))] [(.int (1 : Int32))])) _
          refine XS.ifNo X42.here hx rfl (hb hby d5_63) rfl ((if0 _ _).trans (tlt (by decide : (0 : Int32) < (1 : Int32))).2.2.2) ?_
          show Steps p.tables e below (T42.setTop (mkF m 66 #[.val (.ref o0), .val (.int (1 : Int32))] [])) _
          refine XS.iconst X42.here hx rfl (hb hby d5_66) ?_
          show Steps p.tables e below (T42.setTop (mkF m 67 #[.val (.ref o0), .val (.int (1 : Int32))] [(.int (1 : Int32))])) _
          refine XS.goto X42.here hx rfl (pc0 := 67) (pc' := 71) rfl (hb hby d5_67) (by decide) (by decide) ?_
          show Steps p.tables e below (T42.setTop (mkF m 71 #[.val (.ref o0), .val (.int (1 : Int32))] [(.int (1 : Int32))])) _
          exact Steps.refl _)
        obtain ⟨fs, hr, hrun, hended, hW, hsame⟩ := X42.leave (v := some (.int ((1 : Int32) &&& 1))) (fun h => by rw [Bd.returns] at h; cases h)
        have K_110 : Keep h0 h42 [o0, ca] := (((Kp0.wr W32 (Or.inl (List.mem_of_getElem? (i := 1) rfl))).wr W37 (Or.inl (List.mem_of_getElem? (i := 0) rfl))).wr W42 (Or.inl (List.mem_of_getElem? (i := 0) rfl)))
        have E_111 : Exa Z h42 o0 "com/example/futures_from_states/futuresfromstates/model/Choices" := (E_40.wr W42)
        have F_112 : Fld Z h42 o0 "com/example/futures_from_states/futuresfromstates/model/Choices" "chosen" "[I" (.ref ca) := (((F_chosen_o0.other W32 (Or.inl ne_o0_ca)).other W37 (Or.inr (slot_ne (Or.inl (hw _ (List.mem_of_getElem? (i := 11) rfl))) (Or.inl (hw _ (List.mem_of_getElem? (i := 22) rfl))) (by decide) (t := (.array .int)) (t' := .int) (by decide) (by decide)))).other W42 (Or.inr (slot_ne (Or.inl (hw _ (List.mem_of_getElem? (i := 11) rfl))) (Or.inl (hw _ (List.mem_of_getElem? (i := 20) rfl))) (by decide) (t := (.array .int)) (t' := .int) (by decide) (by decide))))
        have F_113 : Fld Z h42 o0 "com/example/futures_from_states/futuresfromstates/model/Choices" "counts" "[I" (.ref cb) := (((F_counts_o0.other W32 (Or.inl ne_o0_ca)).other W37 (Or.inr (slot_ne (Or.inl (hw _ (List.mem_of_getElem? (i := 13) rfl))) (Or.inl (hw _ (List.mem_of_getElem? (i := 22) rfl))) (by decide) (t := (.array .int)) (t' := .int) (by decide) (by decide)))).other W42 (Or.inr (slot_ne (Or.inl (hw _ (List.mem_of_getElem? (i := 13) rfl))) (Or.inl (hw _ (List.mem_of_getElem? (i := 20) rfl))) (by decide) (t := (.array .int)) (t' := .int) (by decide) (by decide))))
        have F_114 : Fld Z h42 o0 "com/example/futures_from_states/futuresfromstates/model/Choices" "replayed" "I" (.int (1 : Int32)) := (Fw37.other W42 (Or.inr (slot_ne (Or.inl (hw _ (List.mem_of_getElem? (i := 22) rfl))) (Or.inl (hw _ (List.mem_of_getElem? (i := 20) rfl))) (by decide) (t := .int) (t' := .int) (by decide) (by decide))))
        have V_115 : Arv Z h42 ca kc .int (16 : Int32) (vc.set 0 (.int ((own_by vc (0 : Int32)) + (1 : Int32)))) (.int (0 : Int32)) := ((Vw32.other W37 (Ne.symm ne_o0_ca)).other W42 (Ne.symm ne_o0_ca))
        refine ⟨_, _, K44.trans (retN X42 hx (t := .boolean) Bd.returns (by simp) (hb hby d5_71) hr), hrun, hended, _, _, rfl, ?_, ⟨_, rfl⟩, hW, hsame.mono (by decide) (by first | decide | omega)⟩
        show Q_rm5 Z o0 ca cb kc kt vc vt made rep h0 n0 _ T42.heap _
        rw [e42]
        exact ⟨(by unfold f_rm5; rw [if_pos hm2, if_pos hc27, if_neg hc27b]), N42, K_110, E_111, F_112, F_113, Fw42, (by unfold u_rm5_4; rw [if_pos hm2, if_pos hc27, if_neg hc27b]; exact F_114), (by unfold u_rm5_5; rw [if_pos hm2, if_pos hc27, if_neg hc27b]; exact V_115)⟩
    · have K45 : Steps p.tables e below _ (T9.setTop (mkF m 41 #[.val (.ref o0), .val (.int (2 : Int32))] [(.ref o0)])) := K11.trans (by
        show Steps p.tables e below (T9.setTop (mkF m 27 #[.val (.ref o0), .val (.int (2 : Int32))] [(.int ((own_by vt (1 : Int32)) - (1 : Int32))), (.int (own_by vc (1 : Int32)))])) _
        refine XS.icmpYes X9.here hx rfl (pc0 := 27) (pc' := 36) rfl (hb hby d5_27) rfl (feq hc27).2 (by decide) (by decide) ?_
        show Steps p.tables e below (T9.setTop (mkF m 36 #[.val (.ref o0), .val (.int (2 : Int32))] [])) _
        refine XS.iloadN X9.here hx rfl (hb hby d5_36) rfl ?_
        show Steps p.tables e below (T9.setTop (mkF m 37 #[.val (.ref o0), .val (.int (2 : Int32))] [(.int (2 : Int32))])) _
        refine XS.ifNo X9.here hx rfl (hb hby d5_37) rfl ((if0 _ _).trans (tlt (by decide : (0 : Int32) < (2 : Int32))).2.2.2) ?_
        show Steps p.tables e below (T9.setTop (mkF m 40 #[.val (.ref o0), .val (.int (2 : Int32))] [])) _
        refine XS.aloadN X9.here hx rfl (hb hby d5_40) rfl rfl ?_
        show Steps p.tables e below (T9.setTop (mkF m 41 #[.val (.ref o0), .val (.int (2 : Int32))] [(.ref o0)])) _
        exact Steps.refl _)
      obtain ⟨T46, X46, e46, st46⟩ := getF X9 hx hZ hown (host := "") (Or.inl (hw _ (List.mem_of_getElem? (i := 10) rfl))) Via.refl e9 F_chosen_o0 (g := (mkF m 41 #[.val (.ref o0), .val (.int (2 : Int32))] [(.ref o0)])) rfl rfl (hb hby d5_41)
      have K47 : Steps p.tables e below _ (T46.setTop (mkF m 44 #[.val (.ref o0), .val (.int (2 : Int32))] [(.ref ca)])) := K45.trans (st46 _ (Steps.refl _))
      have K48 : Steps p.tables e below _ (T46.setTop (mkF m 51 #[.val (.ref o0), .val (.int (2 : Int32))] [(.int ((own_by vc (1 : Int32)) + (1 : Int32))), (.int (1 : Int32)), (.ref ca)])) := K47.trans (by
        show Steps p.tables e below (T46.setTop (mkF m 44 #[.val (.ref o0), .val (.int (2 : Int32))] [(.ref ca)])) _
        refine XS.iloadN X46.here hx rfl (hb hby d5_44) rfl ?_
        show Steps p.tables e below (T46.setTop (mkF m 45 #[.val (.ref o0), .val (.int (2 : Int32))] [(.int (2 : Int32)), (.ref ca)])) _
        refine XS.iconst X46.here hx rfl (hb hby d5_45) ?_
        show Steps p.tables e below (T46.setTop (mkF m 46 #[.val (.ref o0), .val (.int (2 : Int32))] [(.int (1 : Int32)), (.int (2 : Int32)), (.ref ca)])) _
        refine XS.isub X46.here hx rfl (hb hby d5_46) rfl ?_
        show Steps p.tables e below (T46.setTop (mkF m 47 #[.val (.ref o0), .val (.int (2 : Int32))] [(.int (1 : Int32)), (.ref ca)])) _
        refine Jvm.Free.XT.dup2 X46.here hx rfl (hb hby d5_47) rfl rfl rfl ?_
        show Steps p.tables e below (T46.setTop (mkF m 48 #[.val (.ref o0), .val (.int (2 : Int32))] [(.int (1 : Int32)), (.ref ca), (.int (1 : Int32)), (.ref ca)])) _
        refine (own_ldI X46 hx hZ e46 V_ca (j := (1 : Int32)) ⟨by decide, by decide⟩ (hI.2.2.1 _) (g := (mkF m 48 #[.val (.ref o0), .val (.int (2 : Int32))] [(.int (1 : Int32)), (.ref ca), (.int (1 : Int32)), (.ref ca)])) rfl rfl (hb hby d5_48)).trans ?_
        show Steps p.tables e below (T46.setTop (mkF m 49 #[.val (.ref o0), .val (.int (2 : Int32))] [(.int (own_by vc (1 : Int32))), (.int (1 : Int32)), (.ref ca)])) _
        refine XS.iconst X46.here hx rfl (hb hby d5_49) ?_
        show Steps p.tables e below (T46.setTop (mkF m 50 #[.val (.ref o0), .val (.int (2 : Int32))] [(.int (1 : Int32)), (.int (own_by vc (1 : Int32))), (.int (1 : Int32)), (.ref ca)])) _
        refine XS.iadd X46.here hx rfl (hb hby d5_50) rfl ?_
        show Steps p.tables e below (T46.setTop (mkF m 51 #[.val (.ref o0), .val (.int (2 : Int32))] [(.int ((own_by vc (1 : Int32)) + (1 : Int32))), (.int (1 : Int32)), (.ref ca)])) _
        exact Steps.refl _)
      obtain ⟨T49, h49, X49, e49, W49, V49, st49⟩ := own_stI X46 hx hZ e46 V_ca (j := (1 : Int32)) ⟨by decide, by decide⟩ 1 rfl (by rw [hI.2.1.1]; decide) (g := (mkF m 51 #[.val (.ref o0), .val (.int (2 : Int32))] [(.int ((own_by vc (1 : Int32)) + (1 : Int32))), (.int (1 : Int32)), (.ref ca)])) rfl rfl (hb hby d5_51)
      have K50 : Steps p.tables e below _ (T49.setTop (mkF m 52 #[.val (.ref o0), .val (.int (2 : Int32))] [])) := K48.trans st49
      have Vw49 : Arv Z h49 ca kc .int (16 : Int32) (vc.set 1 (.int ((own_by vc (1 : Int32)) + (1 : Int32)))) (.int (0 : Int32)) := V49
      have N49 := Fr.snoc X49 N0 g_ca
      have K51 : Steps p.tables e below _ (T49.setTop (mkF m 54 #[.val (.ref o0), .val (.int (2 : Int32))] [(.int (2 : Int32)), (.ref o0)])) := K50.trans (by
        show Steps p.tables e below (T49.setTop (mkF m 52 #[.val (.ref o0), .val (.int (2 : Int32))] [])) _
        refine XS.aloadN X49.here hx rfl (hb hby d5_52) rfl rfl ?_
        show Steps p.tables e below (T49.setTop (mkF m 53 #[.val (.ref o0), .val (.int (2 : Int32))] [(.ref o0)])) _
        refine XS.iloadN X49.here hx rfl (hb hby d5_53) rfl ?_
        show Steps p.tables e below (T49.setTop (mkF m 54 #[.val (.ref o0), .val (.int (2 : Int32))] [(.int (2 : Int32)), (.ref o0)])) _
        exact Steps.refl _)
      have E_52 : Exa Z h49 o0 "com/example/futures_from_states/futuresfromstates/model/Choices" := (E_o0.wr W49)
      have F_53 : Fld Z h49 o0 "com/example/futures_from_states/futuresfromstates/model/Choices" "replayed" "I" (.int rep) := (F_replayed_o0.other W49 (Or.inl ne_o0_ca))
      obtain ⟨T54, h54, X54, e54, W54, st54⟩ := putF X49 hx hZ hown (host := "") (Or.inl (hw _ (List.mem_of_getElem? (i := 21) rfl))) Via.refl e49 F_53 E_52 (Or.inl (hw _ (List.mem_of_getElem? (i := 22) rfl))) (hw _ (List.mem_of_getElem? (i := 1) rfl)) (ty := .int) (by decide) rfl rfl (g := (mkF m 54 #[.val (.ref o0), .val (.int (2 : Int32))] [(.int (2 : Int32)), (.ref o0)])) rfl rfl (hb hby d5_54)
      have K55 : Steps p.tables e below _ (T54.setTop (mkF m 57 #[.val (.ref o0), .val (.int (2 : Int32))] [])) := K51.trans (st54 _ (Steps.refl _))
      have Fw54 : Fld Z h54 o0 "com/example/futures_from_states/futuresfromstates/model/Choices" "replayed" "I" (.int (2 : Int32)) := F_53.same W54
      have N54 := Fr.snoc X54 N49 g_o0
      have K56 : Steps p.tables e below _ (T54.setTop (mkF m 59 #[.val (.ref o0), .val (.int (2 : Int32))] [(.int (0 : Int32)), (.ref o0)])) := K55.trans (by
        show Steps p.tables e below (T54.setTop (mkF m 57 #[.val (.ref o0), .val (.int (2 : Int32))] [])) _
        refine XS.aloadN X54.here hx rfl (hb hby d5_57) rfl rfl ?_
        show Steps p.tables e below (T54.setTop (mkF m 58 #[.val (.ref o0), .val (.int (2 : Int32))] [(.ref o0)])) _
        refine XS.iconst X54.here hx rfl (hb hby d5_58) ?_
        show Steps p.tables e below (T54.setTop (mkF m 59 #[.val (.ref o0), .val (.int (2 : Int32))] [(.int (0 : Int32)), (.ref o0)])) _
        exact Steps.refl _)
      have E_57 : Exa Z h54 o0 "com/example/futures_from_states/futuresfromstates/model/Choices" := (E_52.wr W54)
      have F_58 : Fld Z h54 o0 "com/example/futures_from_states/futuresfromstates/model/Choices" "made" "I" (.int made) := ((F_made_o0.other W49 (Or.inl ne_o0_ca)).other W54 (Or.inr (slot_ne (Or.inl (hw _ (List.mem_of_getElem? (i := 20) rfl))) (Or.inl (hw _ (List.mem_of_getElem? (i := 22) rfl))) (by decide) (t := .int) (t' := .int) (by decide) (by decide))))
      obtain ⟨T59, h59, X59, e59, W59, st59⟩ := putF X54 hx hZ hown (host := "") (Or.inl (hw _ (List.mem_of_getElem? (i := 19) rfl))) Via.refl e54 F_58 E_57 (Or.inl (hw _ (List.mem_of_getElem? (i := 20) rfl))) (hw _ (List.mem_of_getElem? (i := 1) rfl)) (ty := .int) (by decide) rfl rfl (g := (mkF m 59 #[.val (.ref o0), .val (.int (2 : Int32))] [(.int (0 : Int32)), (.ref o0)])) rfl rfl (hb hby d5_59)
      have K60 : Steps p.tables e below _ (T59.setTop (mkF m 62 #[.val (.ref o0), .val (.int (2 : Int32))] [])) := K56.trans (st59 _ (Steps.refl _))
      have Fw59 : Fld Z h59 o0 "com/example/futures_from_states/futuresfromstates/model/Choices" "made" "I" (.int (0 : Int32)) := F_58.same W59
      have N59 := Fr.snoc X59 N54 g_o0
      have K61 : Steps p.tables e below _ (T59.setTop (mkF m 71 #[.val (.ref o0), .val (.int (2 : Int32))] [(.int (1 : Int32))])) := K60.trans (by
        show Steps p.tables e below (T59.setTop (mkF m 62 #[.val (.ref o0), .val (.int (2 : Int32))] [])) _
        refine XS.iloadN X59.here hx rfl (hb hby d5_62) rfl ?_
        show Steps p.tables e below (T59.setTop (mkF m 63 #[.val (.ref o0), .val (.int (2 : Int32))] [(.int (2 : Int32))])) _
        refine XS.ifNo X59.here hx rfl (hb hby d5_63) rfl ((if0 _ _).trans (tlt (by decide : (0 : Int32) < (2 : Int32))).2.2.2) ?_
        show Steps p.tables e below (T59.setTop (mkF m 66 #[.val (.ref o0), .val (.int (2 : Int32))] [])) _
        refine XS.iconst X59.here hx rfl (hb hby d5_66) ?_
        show Steps p.tables e below (T59.setTop (mkF m 67 #[.val (.ref o0), .val (.int (2 : Int32))] [(.int (1 : Int32))])) _
        refine XS.goto X59.here hx rfl (pc0 := 67) (pc' := 71) rfl (hb hby d5_67) (by decide) (by decide) ?_
        show Steps p.tables e below (T59.setTop (mkF m 71 #[.val (.ref o0), .val (.int (2 : Int32))] [(.int (1 : Int32))])) _
        exact Steps.refl _)
      obtain ⟨fs, hr, hrun, hended, hW, hsame⟩ := X59.leave (v := some (.int ((1 : Int32) &&& 1))) (fun h => by rw [Bd.returns] at h; cases h)
      have K_116 : Keep h0 h59 [o0, ca] := (((Kp0.wr W49 (Or.inl (List.mem_of_getElem? (i := 1) rfl))).wr W54 (Or.inl (List.mem_of_getElem? (i := 0) rfl))).wr W59 (Or.inl (List.mem_of_getElem? (i := 0) rfl)))
      have E_117 : Exa Z h59 o0 "com/example/futures_from_states/futuresfromstates/model/Choices" := (E_57.wr W59)
      have F_118 : Fld Z h59 o0 "com/example/futures_from_states/futuresfromstates/model/Choices" "chosen" "[I" (.ref ca) := (((F_chosen_o0.other W49 (Or.inl ne_o0_ca)).other W54 (Or.inr (slot_ne (Or.inl (hw _ (List.mem_of_getElem? (i := 11) rfl))) (Or.inl (hw _ (List.mem_of_getElem? (i := 22) rfl))) (by decide) (t := (.array .int)) (t' := .int) (by decide) (by decide)))).other W59 (Or.inr (slot_ne (Or.inl (hw _ (List.mem_of_getElem? (i := 11) rfl))) (Or.inl (hw _ (List.mem_of_getElem? (i := 20) rfl))) (by decide) (t := (.array .int)) (t' := .int) (by decide) (by decide))))
      have F_119 : Fld Z h59 o0 "com/example/futures_from_states/futuresfromstates/model/Choices" "counts" "[I" (.ref cb) := (((F_counts_o0.other W49 (Or.inl ne_o0_ca)).other W54 (Or.inr (slot_ne (Or.inl (hw _ (List.mem_of_getElem? (i := 13) rfl))) (Or.inl (hw _ (List.mem_of_getElem? (i := 22) rfl))) (by decide) (t := (.array .int)) (t' := .int) (by decide) (by decide)))).other W59 (Or.inr (slot_ne (Or.inl (hw _ (List.mem_of_getElem? (i := 13) rfl))) (Or.inl (hw _ (List.mem_of_getElem? (i := 20) rfl))) (by decide) (t := (.array .int)) (t' := .int) (by decide) (by decide))))
      have F_120 : Fld Z h59 o0 "com/example/futures_from_states/futuresfromstates/model/Choices" "replayed" "I" (.int (2 : Int32)) := (Fw54.other W59 (Or.inr (slot_ne (Or.inl (hw _ (List.mem_of_getElem? (i := 22) rfl))) (Or.inl (hw _ (List.mem_of_getElem? (i := 20) rfl))) (by decide) (t := .int) (t' := .int) (by decide) (by decide))))
      have V_121 : Arv Z h59 ca kc .int (16 : Int32) (vc.set 1 (.int ((own_by vc (1 : Int32)) + (1 : Int32)))) (.int (0 : Int32)) := ((Vw49.other W54 (Ne.symm ne_o0_ca)).other W59 (Ne.symm ne_o0_ca))
      refine ⟨_, _, K61.trans (retN X59 hx (t := .boolean) Bd.returns (by simp) (hb hby d5_71) hr), hrun, hended, _, _, rfl, ?_, ⟨_, rfl⟩, hW, hsame.mono (by decide) (by first | decide | omega)⟩
      show Q_rm5 Z o0 ca cb kc kt vc vt made rep h0 n0 _ T59.heap _
      rw [e59]
      exact ⟨(by unfold f_rm5; rw [if_pos hm2, if_neg hc27]), N59, K_116, E_117, F_118, F_119, Fw59, (by unfold u_rm5_4; rw [if_pos hm2, if_neg hc27]; exact F_120), (by unfold u_rm5_5; rw [if_pos hm2, if_neg hc27]; exact V_121)⟩
  · by_cases hm1 : made = (1 : Int32)
    · rw [hm1] at K4
      have K62 : Steps p.tables e below _ (T2.setTop (mkF m 10 #[.val (.ref o0), .val (.int (1 : Int32))] [(.ref o0)])) := K4.trans (by
        show Steps p.tables e below (T2.setTop (mkF m 5 #[.val (.ref o0), .val (.int (1 : Int32))] [])) _
        refine XS.iloadN X2.here hx rfl (hb hby d5_5) rfl ?_
        show Steps p.tables e below (T2.setTop (mkF m 6 #[.val (.ref o0), .val (.int (1 : Int32))] [(.int (1 : Int32))])) _
        refine XS.ifNo X2.here hx rfl (hb hby d5_6) rfl ((if0 _ _).trans (tlt (by decide : (0 : Int32) < (1 : Int32))).2.2.2) ?_
        show Steps p.tables e below (T2.setTop (mkF m 9 #[.val (.ref o0), .val (.int (1 : Int32))] [])) _
        refine XS.aloadN X2.here hx rfl (hb hby d5_9) rfl rfl ?_
        show Steps p.tables e below (T2.setTop (mkF m 10 #[.val (.ref o0), .val (.int (1 : Int32))] [(.ref o0)])) _
        exact Steps.refl _)
      obtain ⟨T63, X63, e63, st63⟩ := getF X2 hx hZ hown (host := "") (Or.inl (hw _ (List.mem_of_getElem? (i := 10) rfl))) Via.refl e2 F_chosen_o0 (g := (mkF m 10 #[.val (.ref o0), .val (.int (1 : Int32))] [(.ref o0)])) rfl rfl (hb hby d5_10)
      have K64 : Steps p.tables e below _ (T63.setTop (mkF m 13 #[.val (.ref o0), .val (.int (1 : Int32))] [(.ref ca)])) := K62.trans (st63 _ (Steps.refl _))
      have K65 : Steps p.tables e below _ (T63.setTop (mkF m 18 #[.val (.ref o0), .val (.int (1 : Int32))] [(.ref o0), (.int (own_by vc (0 : Int32)))])) := K64.trans (by
        show Steps p.tables e below (T63.setTop (mkF m 13 #[.val (.ref o0), .val (.int (1 : Int32))] [(.ref ca)])) _
        refine XS.iloadN X63.here hx rfl (hb hby d5_13) rfl ?_
        show Steps p.tables e below (T63.setTop (mkF m 14 #[.val (.ref o0), .val (.int (1 : Int32))] [(.int (1 : Int32)), (.ref ca)])) _
        refine XS.iconst X63.here hx rfl (hb hby d5_14) ?_
        show Steps p.tables e below (T63.setTop (mkF m 15 #[.val (.ref o0), .val (.int (1 : Int32))] [(.int (1 : Int32)), (.int (1 : Int32)), (.ref ca)])) _
        refine XS.isub X63.here hx rfl (hb hby d5_15) rfl ?_
        show Steps p.tables e below (T63.setTop (mkF m 16 #[.val (.ref o0), .val (.int (1 : Int32))] [(.int (0 : Int32)), (.ref ca)])) _
        refine (own_ldI X63 hx hZ e63 V_ca (j := (0 : Int32)) ⟨by decide, by decide⟩ (hI.2.2.1 _) (g := (mkF m 16 #[.val (.ref o0), .val (.int (1 : Int32))] [(.int (0 : Int32)), (.ref ca)])) rfl rfl (hb hby d5_16)).trans ?_
        show Steps p.tables e below (T63.setTop (mkF m 17 #[.val (.ref o0), .val (.int (1 : Int32))] [(.int (own_by vc (0 : Int32)))])) _
        refine XS.aloadN X63.here hx rfl (hb hby d5_17) rfl rfl ?_
        show Steps p.tables e below (T63.setTop (mkF m 18 #[.val (.ref o0), .val (.int (1 : Int32))] [(.ref o0), (.int (own_by vc (0 : Int32)))])) _
        exact Steps.refl _)
      obtain ⟨T66, X66, e66, st66⟩ := getF X63 hx hZ hown (host := "") (Or.inl (hw _ (List.mem_of_getElem? (i := 12) rfl))) Via.refl e63 F_counts_o0 (g := (mkF m 18 #[.val (.ref o0), .val (.int (1 : Int32))] [(.ref o0), (.int (own_by vc (0 : Int32)))])) rfl rfl (hb hby d5_18)
      have K67 : Steps p.tables e below _ (T66.setTop (mkF m 21 #[.val (.ref o0), .val (.int (1 : Int32))] [(.ref cb), (.int (own_by vc (0 : Int32)))])) := K65.trans (st66 _ (Steps.refl _))
      have K68 : Steps p.tables e below _ (T66.setTop (mkF m 27 #[.val (.ref o0), .val (.int (1 : Int32))] [(.int ((own_by vt (0 : Int32)) - (1 : Int32))), (.int (own_by vc (0 : Int32)))])) := K67.trans (by
        show Steps p.tables e below (T66.setTop (mkF m 21 #[.val (.ref o0), .val (.int (1 : Int32))] [(.ref cb), (.int (own_by vc (0 : Int32)))])) _
        refine XS.iloadN X66.here hx rfl (hb hby d5_21) rfl ?_
        show Steps p.tables e below (T66.setTop (mkF m 22 #[.val (.ref o0), .val (.int (1 : Int32))] [(.int (1 : Int32)), (.ref cb), (.int (own_by vc (0 : Int32)))])) _
        refine XS.iconst X66.here hx rfl (hb hby d5_22) ?_
        show Steps p.tables e below (T66.setTop (mkF m 23 #[.val (.ref o0), .val (.int (1 : Int32))] [(.int (1 : Int32)), (.int (1 : Int32)), (.ref cb), (.int (own_by vc (0 : Int32)))])) _
        refine XS.isub X66.here hx rfl (hb hby d5_23) rfl ?_
        show Steps p.tables e below (T66.setTop (mkF m 24 #[.val (.ref o0), .val (.int (1 : Int32))] [(.int (0 : Int32)), (.ref cb), (.int (own_by vc (0 : Int32)))])) _
        refine (own_ldI X66 hx hZ e66 V_cb (j := (0 : Int32)) ⟨by decide, by decide⟩ (hI.2.2.2 _) (g := (mkF m 24 #[.val (.ref o0), .val (.int (1 : Int32))] [(.int (0 : Int32)), (.ref cb), (.int (own_by vc (0 : Int32)))])) rfl rfl (hb hby d5_24)).trans ?_
        show Steps p.tables e below (T66.setTop (mkF m 25 #[.val (.ref o0), .val (.int (1 : Int32))] [(.int (own_by vt (0 : Int32))), (.int (own_by vc (0 : Int32)))])) _
        refine XS.iconst X66.here hx rfl (hb hby d5_25) ?_
        show Steps p.tables e below (T66.setTop (mkF m 26 #[.val (.ref o0), .val (.int (1 : Int32))] [(.int (1 : Int32)), (.int (own_by vt (0 : Int32))), (.int (own_by vc (0 : Int32)))])) _
        refine XS.isub X66.here hx rfl (hb hby d5_26) rfl ?_
        show Steps p.tables e below (T66.setTop (mkF m 27 #[.val (.ref o0), .val (.int (1 : Int32))] [(.int ((own_by vt (0 : Int32)) - (1 : Int32))), (.int (own_by vc (0 : Int32)))])) _
        exact Steps.refl _)
      by_cases hc27 : (own_by vc (0 : Int32)) = ((own_by vt (0 : Int32)) - (1 : Int32))
      · have K69 : Steps p.tables e below _ (T66.setTop (mkF m 54 #[.val (.ref o0), .val (.int (0 : Int32))] [(.int (0 : Int32)), (.ref o0)])) := K68.trans (by
          show Steps p.tables e below (T66.setTop (mkF m 27 #[.val (.ref o0), .val (.int (1 : Int32))] [(.int ((own_by vt (0 : Int32)) - (1 : Int32))), (.int (own_by vc (0 : Int32)))])) _
          refine XS.icmpNo X66.here hx rfl (hb hby d5_27) rfl (teq hc27).2 ?_
          show Steps p.tables e below (T66.setTop (mkF m 30 #[.val (.ref o0), .val (.int (1 : Int32))] [])) _
          refine XS.iinc X66.here hx rfl (hb hby d5_30) rfl (l' := #[.val (.ref o0), .val (.int (0 : Int32))]) rfl ?_
          show Steps p.tables e below (T66.setTop (mkF m 33 #[.val (.ref o0), .val (.int (0 : Int32))] [])) _
          refine XS.goto X66.here hx rfl (pc0 := 33) (pc' := 5) rfl (hb hby d5_33) (by decide) (by decide) ?_
          show Steps p.tables e below (T66.setTop (mkF m 5 #[.val (.ref o0), .val (.int (0 : Int32))] [])) _
          refine XS.iloadN X66.here hx rfl (hb hby d5_5) rfl ?_
          show Steps p.tables e below (T66.setTop (mkF m 6 #[.val (.ref o0), .val (.int (0 : Int32))] [(.int (0 : Int32))])) _
          refine XS.ifYes X66.here hx rfl (pc0 := 6) (pc' := 36) rfl (hb hby d5_6) rfl ((if0 _ _).trans (flt (by decide : ¬ ((0 : Int32) < (0 : Int32)))).2.2.2) (by decide) (by decide) ?_
          show Steps p.tables e below (T66.setTop (mkF m 36 #[.val (.ref o0), .val (.int (0 : Int32))] [])) _
          refine XS.iloadN X66.here hx rfl (hb hby d5_36) rfl ?_
          show Steps p.tables e below (T66.setTop (mkF m 37 #[.val (.ref o0), .val (.int (0 : Int32))] [(.int (0 : Int32))])) _
          refine XS.ifYes X66.here hx rfl (pc0 := 37) (pc' := 52) rfl (hb hby d5_37) rfl ((if0 _ _).trans (flt (by decide : ¬ ((0 : Int32) < (0 : Int32)))).2.2.2) (by decide) (by decide) ?_
          show Steps p.tables e below (T66.setTop (mkF m 52 #[.val (.ref o0), .val (.int (0 : Int32))] [])) _
          refine XS.aloadN X66.here hx rfl (hb hby d5_52) rfl rfl ?_
          show Steps p.tables e below (T66.setTop (mkF m 53 #[.val (.ref o0), .val (.int (0 : Int32))] [(.ref o0)])) _
          refine XS.iloadN X66.here hx rfl (hb hby d5_53) rfl ?_
          show Steps p.tables e below (T66.setTop (mkF m 54 #[.val (.ref o0), .val (.int (0 : Int32))] [(.int (0 : Int32)), (.ref o0)])) _
          exact Steps.refl _)
        obtain ⟨T70, h70, X70, e70, W70, st70⟩ := putF X66 hx hZ hown (host := "") (Or.inl (hw _ (List.mem_of_getElem? (i := 21) rfl))) Via.refl e66 F_replayed_o0 E_o0 (Or.inl (hw _ (List.mem_of_getElem? (i := 22) rfl))) (hw _ (List.mem_of_getElem? (i := 1) rfl)) (ty := .int) (by decide) rfl rfl (g := (mkF m 54 #[.val (.ref o0), .val (.int (0 : Int32))] [(.int (0 : Int32)), (.ref o0)])) rfl rfl (hb hby d5_54)
        have K71 : Steps p.tables e below _ (T70.setTop (mkF m 57 #[.val (.ref o0), .val (.int (0 : Int32))] [])) := K69.trans (st70 _ (Steps.refl _))
        have Fw70 : Fld Z h70 o0 "com/example/futures_from_states/futuresfromstates/model/Choices" "replayed" "I" (.int (0 : Int32)) := F_replayed_o0.same W70
        have N70 := Fr.snoc X70 N0 g_o0
        have K72 : Steps p.tables e below _ (T70.setTop (mkF m 59 #[.val (.ref o0), .val (.int (0 : Int32))] [(.int (0 : Int32)), (.ref o0)])) := K71.trans (by
          show Steps p.tables e below (T70.setTop (mkF m 57 #[.val (.ref o0), .val (.int (0 : Int32))] [])) _
          refine XS.aloadN X70.here hx rfl (hb hby d5_57) rfl rfl ?_
          show Steps p.tables e below (T70.setTop (mkF m 58 #[.val (.ref o0), .val (.int (0 : Int32))] [(.ref o0)])) _
          refine XS.iconst X70.here hx rfl (hb hby d5_58) ?_
          show Steps p.tables e below (T70.setTop (mkF m 59 #[.val (.ref o0), .val (.int (0 : Int32))] [(.int (0 : Int32)), (.ref o0)])) _
          exact Steps.refl _)
        have E_73 : Exa Z h70 o0 "com/example/futures_from_states/futuresfromstates/model/Choices" := (E_o0.wr W70)
        have F_74 : Fld Z h70 o0 "com/example/futures_from_states/futuresfromstates/model/Choices" "made" "I" (.int made) := (F_made_o0.other W70 (Or.inr (slot_ne (Or.inl (hw _ (List.mem_of_getElem? (i := 20) rfl))) (Or.inl (hw _ (List.mem_of_getElem? (i := 22) rfl))) (by decide) (t := .int) (t' := .int) (by decide) (by decide))))
        obtain ⟨T75, h75, X75, e75, W75, st75⟩ := putF X70 hx hZ hown (host := "") (Or.inl (hw _ (List.mem_of_getElem? (i := 19) rfl))) Via.refl e70 F_74 E_73 (Or.inl (hw _ (List.mem_of_getElem? (i := 20) rfl))) (hw _ (List.mem_of_getElem? (i := 1) rfl)) (ty := .int) (by decide) rfl rfl (g := (mkF m 59 #[.val (.ref o0), .val (.int (0 : Int32))] [(.int (0 : Int32)), (.ref o0)])) rfl rfl (hb hby d5_59)
        have K76 : Steps p.tables e below _ (T75.setTop (mkF m 62 #[.val (.ref o0), .val (.int (0 : Int32))] [])) := K72.trans (st75 _ (Steps.refl _))
        have Fw75 : Fld Z h75 o0 "com/example/futures_from_states/futuresfromstates/model/Choices" "made" "I" (.int (0 : Int32)) := F_74.same W75
        have N75 := Fr.snoc X75 N70 g_o0
        have K77 : Steps p.tables e below _ (T75.setTop (mkF m 71 #[.val (.ref o0), .val (.int (0 : Int32))] [(.int (0 : Int32))])) := K76.trans (by
          show Steps p.tables e below (T75.setTop (mkF m 62 #[.val (.ref o0), .val (.int (0 : Int32))] [])) _
          refine XS.iloadN X75.here hx rfl (hb hby d5_62) rfl ?_
          show Steps p.tables e below (T75.setTop (mkF m 63 #[.val (.ref o0), .val (.int (0 : Int32))] [(.int (0 : Int32))])) _
          refine XS.ifYes X75.here hx rfl (pc0 := 63) (pc' := 70) rfl (hb hby d5_63) rfl ((if0 _ _).trans (flt (by decide : ¬ ((0 : Int32) < (0 : Int32)))).2.2.2) (by decide) (by decide) ?_
          show Steps p.tables e below (T75.setTop (mkF m 70 #[.val (.ref o0), .val (.int (0 : Int32))] [])) _
          refine XS.iconst X75.here hx rfl (hb hby d5_70) ?_
          show Steps p.tables e below (T75.setTop (mkF m 71 #[.val (.ref o0), .val (.int (0 : Int32))] [(.int (0 : Int32))])) _
          exact Steps.refl _)
        obtain ⟨fs, hr, hrun, hended, hW, hsame⟩ := X75.leave (v := some (.int ((0 : Int32) &&& 1))) (fun h => by rw [Bd.returns] at h; cases h)
        have K_122 : Keep h0 h75 [o0, ca] := ((Kp0.wr W70 (Or.inl (List.mem_of_getElem? (i := 0) rfl))).wr W75 (Or.inl (List.mem_of_getElem? (i := 0) rfl)))
        have E_123 : Exa Z h75 o0 "com/example/futures_from_states/futuresfromstates/model/Choices" := (E_73.wr W75)
        have F_124 : Fld Z h75 o0 "com/example/futures_from_states/futuresfromstates/model/Choices" "chosen" "[I" (.ref ca) := ((F_chosen_o0.other W70 (Or.inr (slot_ne (Or.inl (hw _ (List.mem_of_getElem? (i := 11) rfl))) (Or.inl (hw _ (List.mem_of_getElem? (i := 22) rfl))) (by decide) (t := (.array .int)) (t' := .int) (by decide) (by decide)))).other W75 (Or.inr (slot_ne (Or.inl (hw _ (List.mem_of_getElem? (i := 11) rfl))) (Or.inl (hw _ (List.mem_of_getElem? (i := 20) rfl))) (by decide) (t := (.array .int)) (t' := .int) (by decide) (by decide))))
        have F_125 : Fld Z h75 o0 "com/example/futures_from_states/futuresfromstates/model/Choices" "counts" "[I" (.ref cb) := ((F_counts_o0.other W70 (Or.inr (slot_ne (Or.inl (hw _ (List.mem_of_getElem? (i := 13) rfl))) (Or.inl (hw _ (List.mem_of_getElem? (i := 22) rfl))) (by decide) (t := (.array .int)) (t' := .int) (by decide) (by decide)))).other W75 (Or.inr (slot_ne (Or.inl (hw _ (List.mem_of_getElem? (i := 13) rfl))) (Or.inl (hw _ (List.mem_of_getElem? (i := 20) rfl))) (by decide) (t := (.array .int)) (t' := .int) (by decide) (by decide))))
        have F_126 : Fld Z h75 o0 "com/example/futures_from_states/futuresfromstates/model/Choices" "replayed" "I" (.int (0 : Int32)) := (Fw70.other W75 (Or.inr (slot_ne (Or.inl (hw _ (List.mem_of_getElem? (i := 22) rfl))) (Or.inl (hw _ (List.mem_of_getElem? (i := 20) rfl))) (by decide) (t := .int) (t' := .int) (by decide) (by decide))))
        have V_127 : Arv Z h75 ca kc .int (16 : Int32) vc (.int (0 : Int32)) := ((V_ca.other W70 (Ne.symm ne_o0_ca)).other W75 (Ne.symm ne_o0_ca))
        refine ⟨_, _, K77.trans (retN X75 hx (t := .boolean) Bd.returns (by simp) (hb hby d5_71) hr), hrun, hended, _, _, rfl, ?_, ⟨_, rfl⟩, hW, hsame.mono (by decide) (by first | decide | omega)⟩
        show Q_rm5 Z o0 ca cb kc kt vc vt made rep h0 n0 _ T75.heap _
        rw [e75]
        exact ⟨(by unfold f_rm5; rw [if_neg hm2, if_pos hm1, if_pos hc27]), N75, K_122, E_123, F_124, F_125, Fw75, (by unfold u_rm5_4; rw [if_neg hm2, if_pos hm1, if_pos hc27]; exact F_126), (by unfold u_rm5_5; rw [if_neg hm2, if_pos hm1, if_pos hc27]; exact V_127)⟩
      · have K78 : Steps p.tables e below _ (T66.setTop (mkF m 41 #[.val (.ref o0), .val (.int (1 : Int32))] [(.ref o0)])) := K68.trans (by
          show Steps p.tables e below (T66.setTop (mkF m 27 #[.val (.ref o0), .val (.int (1 : Int32))] [(.int ((own_by vt (0 : Int32)) - (1 : Int32))), (.int (own_by vc (0 : Int32)))])) _
          refine XS.icmpYes X66.here hx rfl (pc0 := 27) (pc' := 36) rfl (hb hby d5_27) rfl (feq hc27).2 (by decide) (by decide) ?_
          show Steps p.tables e below (T66.setTop (mkF m 36 #[.val (.ref o0), .val (.int (1 : Int32))] [])) _
          refine XS.iloadN X66.here hx rfl (hb hby d5_36) rfl ?_
          show Steps p.tables e below (T66.setTop (mkF m 37 #[.val (.ref o0), .val (.int (1 : Int32))] [(.int (1 : Int32))])) _
          refine XS.ifNo X66.here hx rfl (hb hby d5_37) rfl ((if0 _ _).trans (tlt (by decide : (0 : Int32) < (1 : Int32))).2.2.2) ?_
          show Steps p.tables e below (T66.setTop (mkF m 40 #[.val (.ref o0), .val (.int (1 : Int32))] [])) _
          refine XS.aloadN X66.here hx rfl (hb hby d5_40) rfl rfl ?_
          show Steps p.tables e below (T66.setTop (mkF m 41 #[.val (.ref o0), .val (.int (1 : Int32))] [(.ref o0)])) _
          exact Steps.refl _)
        obtain ⟨T79, X79, e79, st79⟩ := getF X66 hx hZ hown (host := "") (Or.inl (hw _ (List.mem_of_getElem? (i := 10) rfl))) Via.refl e66 F_chosen_o0 (g := (mkF m 41 #[.val (.ref o0), .val (.int (1 : Int32))] [(.ref o0)])) rfl rfl (hb hby d5_41)
        have K80 : Steps p.tables e below _ (T79.setTop (mkF m 44 #[.val (.ref o0), .val (.int (1 : Int32))] [(.ref ca)])) := K78.trans (st79 _ (Steps.refl _))
        have K81 : Steps p.tables e below _ (T79.setTop (mkF m 51 #[.val (.ref o0), .val (.int (1 : Int32))] [(.int ((own_by vc (0 : Int32)) + (1 : Int32))), (.int (0 : Int32)), (.ref ca)])) := K80.trans (by
          show Steps p.tables e below (T79.setTop (mkF m 44 #[.val (.ref o0), .val (.int (1 : Int32))] [(.ref ca)])) _
          refine XS.iloadN X79.here hx rfl (hb hby d5_44) rfl ?_
          show Steps p.tables e below (T79.setTop (mkF m 45 #[.val (.ref o0), .val (.int (1 : Int32))] [(.int (1 : Int32)), (.ref ca)])) _
          refine XS.iconst X79.here hx rfl (hb hby d5_45) ?_
          show Steps p.tables e below (T79.setTop (mkF m 46 #[.val (.ref o0), .val (.int (1 : Int32))] [(.int (1 : Int32)), (.int (1 : Int32)), (.ref ca)])) _
          refine XS.isub X79.here hx rfl (hb hby d5_46) rfl ?_
          show Steps p.tables e below (T79.setTop (mkF m 47 #[.val (.ref o0), .val (.int (1 : Int32))] [(.int (0 : Int32)), (.ref ca)])) _
          refine Jvm.Free.XT.dup2 X79.here hx rfl (hb hby d5_47) rfl rfl rfl ?_
          show Steps p.tables e below (T79.setTop (mkF m 48 #[.val (.ref o0), .val (.int (1 : Int32))] [(.int (0 : Int32)), (.ref ca), (.int (0 : Int32)), (.ref ca)])) _
          refine (own_ldI X79 hx hZ e79 V_ca (j := (0 : Int32)) ⟨by decide, by decide⟩ (hI.2.2.1 _) (g := (mkF m 48 #[.val (.ref o0), .val (.int (1 : Int32))] [(.int (0 : Int32)), (.ref ca), (.int (0 : Int32)), (.ref ca)])) rfl rfl (hb hby d5_48)).trans ?_
          show Steps p.tables e below (T79.setTop (mkF m 49 #[.val (.ref o0), .val (.int (1 : Int32))] [(.int (own_by vc (0 : Int32))), (.int (0 : Int32)), (.ref ca)])) _
          refine XS.iconst X79.here hx rfl (hb hby d5_49) ?_
          show Steps p.tables e below (T79.setTop (mkF m 50 #[.val (.ref o0), .val (.int (1 : Int32))] [(.int (1 : Int32)), (.int (own_by vc (0 : Int32))), (.int (0 : Int32)), (.ref ca)])) _
          refine XS.iadd X79.here hx rfl (hb hby d5_50) rfl ?_
          show Steps p.tables e below (T79.setTop (mkF m 51 #[.val (.ref o0), .val (.int (1 : Int32))] [(.int ((own_by vc (0 : Int32)) + (1 : Int32))), (.int (0 : Int32)), (.ref ca)])) _
          exact Steps.refl _)
        obtain ⟨T82, h82, X82, e82, W82, V82, st82⟩ := own_stI X79 hx hZ e79 V_ca (j := (0 : Int32)) ⟨by decide, by decide⟩ 0 rfl (by rw [hI.2.1.1]; decide) (g := (mkF m 51 #[.val (.ref o0), .val (.int (1 : Int32))] [(.int ((own_by vc (0 : Int32)) + (1 : Int32))), (.int (0 : Int32)), (.ref ca)])) rfl rfl (hb hby d5_51)
        have K83 : Steps p.tables e below _ (T82.setTop (mkF m 52 #[.val (.ref o0), .val (.int (1 : Int32))] [])) := K81.trans st82
        have Vw82 : Arv Z h82 ca kc .int (16 : Int32) (vc.set 0 (.int ((own_by vc (0 : Int32)) + (1 : Int32)))) (.int (0 : Int32)) := V82
        have N82 := Fr.snoc X82 N0 g_ca
        have K84 : Steps p.tables e below _ (T82.setTop (mkF m 54 #[.val (.ref o0), .val (.int (1 : Int32))] [(.int (1 : Int32)), (.ref o0)])) := K83.trans (by
          show Steps p.tables e below (T82.setTop (mkF m 52 #[.val (.ref o0), .val (.int (1 : Int32))] [])) _
          refine XS.aloadN X82.here hx rfl (hb hby d5_52) rfl rfl ?_
          show Steps p.tables e below (T82.setTop (mkF m 53 #[.val (.ref o0), .val (.int (1 : Int32))] [(.ref o0)])) _
          refine XS.iloadN X82.here hx rfl (hb hby d5_53) rfl ?_
          show Steps p.tables e below (T82.setTop (mkF m 54 #[.val (.ref o0), .val (.int (1 : Int32))] [(.int (1 : Int32)), (.ref o0)])) _
          exact Steps.refl _)
        have E_85 : Exa Z h82 o0 "com/example/futures_from_states/futuresfromstates/model/Choices" := (E_o0.wr W82)
        have F_86 : Fld Z h82 o0 "com/example/futures_from_states/futuresfromstates/model/Choices" "replayed" "I" (.int rep) := (F_replayed_o0.other W82 (Or.inl ne_o0_ca))
        obtain ⟨T87, h87, X87, e87, W87, st87⟩ := putF X82 hx hZ hown (host := "") (Or.inl (hw _ (List.mem_of_getElem? (i := 21) rfl))) Via.refl e82 F_86 E_85 (Or.inl (hw _ (List.mem_of_getElem? (i := 22) rfl))) (hw _ (List.mem_of_getElem? (i := 1) rfl)) (ty := .int) (by decide) rfl rfl (g := (mkF m 54 #[.val (.ref o0), .val (.int (1 : Int32))] [(.int (1 : Int32)), (.ref o0)])) rfl rfl (hb hby d5_54)
        have K88 : Steps p.tables e below _ (T87.setTop (mkF m 57 #[.val (.ref o0), .val (.int (1 : Int32))] [])) := K84.trans (st87 _ (Steps.refl _))
        have Fw87 : Fld Z h87 o0 "com/example/futures_from_states/futuresfromstates/model/Choices" "replayed" "I" (.int (1 : Int32)) := F_86.same W87
        have N87 := Fr.snoc X87 N82 g_o0
        have K89 : Steps p.tables e below _ (T87.setTop (mkF m 59 #[.val (.ref o0), .val (.int (1 : Int32))] [(.int (0 : Int32)), (.ref o0)])) := K88.trans (by
          show Steps p.tables e below (T87.setTop (mkF m 57 #[.val (.ref o0), .val (.int (1 : Int32))] [])) _
          refine XS.aloadN X87.here hx rfl (hb hby d5_57) rfl rfl ?_
          show Steps p.tables e below (T87.setTop (mkF m 58 #[.val (.ref o0), .val (.int (1 : Int32))] [(.ref o0)])) _
          refine XS.iconst X87.here hx rfl (hb hby d5_58) ?_
          show Steps p.tables e below (T87.setTop (mkF m 59 #[.val (.ref o0), .val (.int (1 : Int32))] [(.int (0 : Int32)), (.ref o0)])) _
          exact Steps.refl _)
        have E_90 : Exa Z h87 o0 "com/example/futures_from_states/futuresfromstates/model/Choices" := (E_85.wr W87)
        have F_91 : Fld Z h87 o0 "com/example/futures_from_states/futuresfromstates/model/Choices" "made" "I" (.int made) := ((F_made_o0.other W82 (Or.inl ne_o0_ca)).other W87 (Or.inr (slot_ne (Or.inl (hw _ (List.mem_of_getElem? (i := 20) rfl))) (Or.inl (hw _ (List.mem_of_getElem? (i := 22) rfl))) (by decide) (t := .int) (t' := .int) (by decide) (by decide))))
        obtain ⟨T92, h92, X92, e92, W92, st92⟩ := putF X87 hx hZ hown (host := "") (Or.inl (hw _ (List.mem_of_getElem? (i := 19) rfl))) Via.refl e87 F_91 E_90 (Or.inl (hw _ (List.mem_of_getElem? (i := 20) rfl))) (hw _ (List.mem_of_getElem? (i := 1) rfl)) (ty := .int) (by decide) rfl rfl (g := (mkF m 59 #[.val (.ref o0), .val (.int (1 : Int32))] [(.int (0 : Int32)), (.ref o0)])) rfl rfl (hb hby d5_59)
        have K93 : Steps p.tables e below _ (T92.setTop (mkF m 62 #[.val (.ref o0), .val (.int (1 : Int32))] [])) := K89.trans (st92 _ (Steps.refl _))
        have Fw92 : Fld Z h92 o0 "com/example/futures_from_states/futuresfromstates/model/Choices" "made" "I" (.int (0 : Int32)) := F_91.same W92
        have N92 := Fr.snoc X92 N87 g_o0
        have K94 : Steps p.tables e below _ (T92.setTop (mkF m 71 #[.val (.ref o0), .val (.int (1 : Int32))] [(.int (1 : Int32))])) := K93.trans (by
          show Steps p.tables e below (T92.setTop (mkF m 62 #[.val (.ref o0), .val (.int (1 : Int32))] [])) _
          refine XS.iloadN X92.here hx rfl (hb hby d5_62) rfl ?_
          show Steps p.tables e below (T92.setTop (mkF m 63 #[.val (.ref o0), .val (.int (1 : Int32))] [(.int (1 : Int32))])) _
          refine XS.ifNo X92.here hx rfl (hb hby d5_63) rfl ((if0 _ _).trans (tlt (by decide : (0 : Int32) < (1 : Int32))).2.2.2) ?_
          show Steps p.tables e below (T92.setTop (mkF m 66 #[.val (.ref o0), .val (.int (1 : Int32))] [])) _
          refine XS.iconst X92.here hx rfl (hb hby d5_66) ?_
          show Steps p.tables e below (T92.setTop (mkF m 67 #[.val (.ref o0), .val (.int (1 : Int32))] [(.int (1 : Int32))])) _
          refine XS.goto X92.here hx rfl (pc0 := 67) (pc' := 71) rfl (hb hby d5_67) (by decide) (by decide) ?_
          show Steps p.tables e below (T92.setTop (mkF m 71 #[.val (.ref o0), .val (.int (1 : Int32))] [(.int (1 : Int32))])) _
          exact Steps.refl _)
        obtain ⟨fs, hr, hrun, hended, hW, hsame⟩ := X92.leave (v := some (.int ((1 : Int32) &&& 1))) (fun h => by rw [Bd.returns] at h; cases h)
        have K_128 : Keep h0 h92 [o0, ca] := (((Kp0.wr W82 (Or.inl (List.mem_of_getElem? (i := 1) rfl))).wr W87 (Or.inl (List.mem_of_getElem? (i := 0) rfl))).wr W92 (Or.inl (List.mem_of_getElem? (i := 0) rfl)))
        have E_129 : Exa Z h92 o0 "com/example/futures_from_states/futuresfromstates/model/Choices" := (E_90.wr W92)
        have F_130 : Fld Z h92 o0 "com/example/futures_from_states/futuresfromstates/model/Choices" "chosen" "[I" (.ref ca) := (((F_chosen_o0.other W82 (Or.inl ne_o0_ca)).other W87 (Or.inr (slot_ne (Or.inl (hw _ (List.mem_of_getElem? (i := 11) rfl))) (Or.inl (hw _ (List.mem_of_getElem? (i := 22) rfl))) (by decide) (t := (.array .int)) (t' := .int) (by decide) (by decide)))).other W92 (Or.inr (slot_ne (Or.inl (hw _ (List.mem_of_getElem? (i := 11) rfl))) (Or.inl (hw _ (List.mem_of_getElem? (i := 20) rfl))) (by decide) (t := (.array .int)) (t' := .int) (by decide) (by decide))))
        have F_131 : Fld Z h92 o0 "com/example/futures_from_states/futuresfromstates/model/Choices" "counts" "[I" (.ref cb) := (((F_counts_o0.other W82 (Or.inl ne_o0_ca)).other W87 (Or.inr (slot_ne (Or.inl (hw _ (List.mem_of_getElem? (i := 13) rfl))) (Or.inl (hw _ (List.mem_of_getElem? (i := 22) rfl))) (by decide) (t := (.array .int)) (t' := .int) (by decide) (by decide)))).other W92 (Or.inr (slot_ne (Or.inl (hw _ (List.mem_of_getElem? (i := 13) rfl))) (Or.inl (hw _ (List.mem_of_getElem? (i := 20) rfl))) (by decide) (t := (.array .int)) (t' := .int) (by decide) (by decide))))
        have F_132 : Fld Z h92 o0 "com/example/futures_from_states/futuresfromstates/model/Choices" "replayed" "I" (.int (1 : Int32)) := (Fw87.other W92 (Or.inr (slot_ne (Or.inl (hw _ (List.mem_of_getElem? (i := 22) rfl))) (Or.inl (hw _ (List.mem_of_getElem? (i := 20) rfl))) (by decide) (t := .int) (t' := .int) (by decide) (by decide))))
        have V_133 : Arv Z h92 ca kc .int (16 : Int32) (vc.set 0 (.int ((own_by vc (0 : Int32)) + (1 : Int32)))) (.int (0 : Int32)) := ((Vw82.other W87 (Ne.symm ne_o0_ca)).other W92 (Ne.symm ne_o0_ca))
        refine ⟨_, _, K94.trans (retN X92 hx (t := .boolean) Bd.returns (by simp) (hb hby d5_71) hr), hrun, hended, _, _, rfl, ?_, ⟨_, rfl⟩, hW, hsame.mono (by decide) (by first | decide | omega)⟩
        show Q_rm5 Z o0 ca cb kc kt vc vt made rep h0 n0 _ T92.heap _
        rw [e92]
        exact ⟨(by unfold f_rm5; rw [if_neg hm2, if_pos hm1, if_neg hc27]), N92, K_128, E_129, F_130, F_131, Fw92, (by unfold u_rm5_4; rw [if_neg hm2, if_pos hm1, if_neg hc27]; exact F_132), (by unfold u_rm5_5; rw [if_neg hm2, if_pos hm1, if_neg hc27]; exact V_133)⟩
    · rw [own_m3 hI hm2 hm1] at K4
      have K95 : Steps p.tables e below _ (T2.setTop (mkF m 54 #[.val (.ref o0), .val (.int (0 : Int32))] [(.int (0 : Int32)), (.ref o0)])) := K4.trans (by
        show Steps p.tables e below (T2.setTop (mkF m 5 #[.val (.ref o0), .val (.int (0 : Int32))] [])) _
        refine XS.iloadN X2.here hx rfl (hb hby d5_5) rfl ?_
        show Steps p.tables e below (T2.setTop (mkF m 6 #[.val (.ref o0), .val (.int (0 : Int32))] [(.int (0 : Int32))])) _
        refine XS.ifYes X2.here hx rfl (pc0 := 6) (pc' := 36) rfl (hb hby d5_6) rfl ((if0 _ _).trans (flt (by decide : ¬ ((0 : Int32) < (0 : Int32)))).2.2.2) (by decide) (by decide) ?_
        show Steps p.tables e below (T2.setTop (mkF m 36 #[.val (.ref o0), .val (.int (0 : Int32))] [])) _
        refine XS.iloadN X2.here hx rfl (hb hby d5_36) rfl ?_
        show Steps p.tables e below (T2.setTop (mkF m 37 #[.val (.ref o0), .val (.int (0 : Int32))] [(.int (0 : Int32))])) _
        refine XS.ifYes X2.here hx rfl (pc0 := 37) (pc' := 52) rfl (hb hby d5_37) rfl ((if0 _ _).trans (flt (by decide : ¬ ((0 : Int32) < (0 : Int32)))).2.2.2) (by decide) (by decide) ?_
        show Steps p.tables e below (T2.setTop (mkF m 52 #[.val (.ref o0), .val (.int (0 : Int32))] [])) _
        refine XS.aloadN X2.here hx rfl (hb hby d5_52) rfl rfl ?_
        show Steps p.tables e below (T2.setTop (mkF m 53 #[.val (.ref o0), .val (.int (0 : Int32))] [(.ref o0)])) _
        refine XS.iloadN X2.here hx rfl (hb hby d5_53) rfl ?_
        show Steps p.tables e below (T2.setTop (mkF m 54 #[.val (.ref o0), .val (.int (0 : Int32))] [(.int (0 : Int32)), (.ref o0)])) _
        exact Steps.refl _)
      obtain ⟨T96, h96, X96, e96, W96, st96⟩ := putF X2 hx hZ hown (host := "") (Or.inl (hw _ (List.mem_of_getElem? (i := 21) rfl))) Via.refl e2 F_replayed_o0 E_o0 (Or.inl (hw _ (List.mem_of_getElem? (i := 22) rfl))) (hw _ (List.mem_of_getElem? (i := 1) rfl)) (ty := .int) (by decide) rfl rfl (g := (mkF m 54 #[.val (.ref o0), .val (.int (0 : Int32))] [(.int (0 : Int32)), (.ref o0)])) rfl rfl (hb hby d5_54)
      have K97 : Steps p.tables e below _ (T96.setTop (mkF m 57 #[.val (.ref o0), .val (.int (0 : Int32))] [])) := K95.trans (st96 _ (Steps.refl _))
      have Fw96 : Fld Z h96 o0 "com/example/futures_from_states/futuresfromstates/model/Choices" "replayed" "I" (.int (0 : Int32)) := F_replayed_o0.same W96
      have N96 := Fr.snoc X96 N0 g_o0
      have K98 : Steps p.tables e below _ (T96.setTop (mkF m 59 #[.val (.ref o0), .val (.int (0 : Int32))] [(.int (0 : Int32)), (.ref o0)])) := K97.trans (by
        show Steps p.tables e below (T96.setTop (mkF m 57 #[.val (.ref o0), .val (.int (0 : Int32))] [])) _
        refine XS.aloadN X96.here hx rfl (hb hby d5_57) rfl rfl ?_
        show Steps p.tables e below (T96.setTop (mkF m 58 #[.val (.ref o0), .val (.int (0 : Int32))] [(.ref o0)])) _
        refine XS.iconst X96.here hx rfl (hb hby d5_58) ?_
        show Steps p.tables e below (T96.setTop (mkF m 59 #[.val (.ref o0), .val (.int (0 : Int32))] [(.int (0 : Int32)), (.ref o0)])) _
        exact Steps.refl _)
      have E_99 : Exa Z h96 o0 "com/example/futures_from_states/futuresfromstates/model/Choices" := (E_o0.wr W96)
      have F_100 : Fld Z h96 o0 "com/example/futures_from_states/futuresfromstates/model/Choices" "made" "I" (.int made) := (F_made_o0.other W96 (Or.inr (slot_ne (Or.inl (hw _ (List.mem_of_getElem? (i := 20) rfl))) (Or.inl (hw _ (List.mem_of_getElem? (i := 22) rfl))) (by decide) (t := .int) (t' := .int) (by decide) (by decide))))
      obtain ⟨T101, h101, X101, e101, W101, st101⟩ := putF X96 hx hZ hown (host := "") (Or.inl (hw _ (List.mem_of_getElem? (i := 19) rfl))) Via.refl e96 F_100 E_99 (Or.inl (hw _ (List.mem_of_getElem? (i := 20) rfl))) (hw _ (List.mem_of_getElem? (i := 1) rfl)) (ty := .int) (by decide) rfl rfl (g := (mkF m 59 #[.val (.ref o0), .val (.int (0 : Int32))] [(.int (0 : Int32)), (.ref o0)])) rfl rfl (hb hby d5_59)
      have K102 : Steps p.tables e below _ (T101.setTop (mkF m 62 #[.val (.ref o0), .val (.int (0 : Int32))] [])) := K98.trans (st101 _ (Steps.refl _))
      have Fw101 : Fld Z h101 o0 "com/example/futures_from_states/futuresfromstates/model/Choices" "made" "I" (.int (0 : Int32)) := F_100.same W101
      have N101 := Fr.snoc X101 N96 g_o0
      have K103 : Steps p.tables e below _ (T101.setTop (mkF m 71 #[.val (.ref o0), .val (.int (0 : Int32))] [(.int (0 : Int32))])) := K102.trans (by
        show Steps p.tables e below (T101.setTop (mkF m 62 #[.val (.ref o0), .val (.int (0 : Int32))] [])) _
        refine XS.iloadN X101.here hx rfl (hb hby d5_62) rfl ?_
        show Steps p.tables e below (T101.setTop (mkF m 63 #[.val (.ref o0), .val (.int (0 : Int32))] [(.int (0 : Int32))])) _
        refine XS.ifYes X101.here hx rfl (pc0 := 63) (pc' := 70) rfl (hb hby d5_63) rfl ((if0 _ _).trans (flt (by decide : ¬ ((0 : Int32) < (0 : Int32)))).2.2.2) (by decide) (by decide) ?_
        show Steps p.tables e below (T101.setTop (mkF m 70 #[.val (.ref o0), .val (.int (0 : Int32))] [])) _
        refine XS.iconst X101.here hx rfl (hb hby d5_70) ?_
        show Steps p.tables e below (T101.setTop (mkF m 71 #[.val (.ref o0), .val (.int (0 : Int32))] [(.int (0 : Int32))])) _
        exact Steps.refl _)
      obtain ⟨fs, hr, hrun, hended, hW, hsame⟩ := X101.leave (v := some (.int ((0 : Int32) &&& 1))) (fun h => by rw [Bd.returns] at h; cases h)
      have K_134 : Keep h0 h101 [o0, ca] := ((Kp0.wr W96 (Or.inl (List.mem_of_getElem? (i := 0) rfl))).wr W101 (Or.inl (List.mem_of_getElem? (i := 0) rfl)))
      have E_135 : Exa Z h101 o0 "com/example/futures_from_states/futuresfromstates/model/Choices" := (E_99.wr W101)
      have F_136 : Fld Z h101 o0 "com/example/futures_from_states/futuresfromstates/model/Choices" "chosen" "[I" (.ref ca) := ((F_chosen_o0.other W96 (Or.inr (slot_ne (Or.inl (hw _ (List.mem_of_getElem? (i := 11) rfl))) (Or.inl (hw _ (List.mem_of_getElem? (i := 22) rfl))) (by decide) (t := (.array .int)) (t' := .int) (by decide) (by decide)))).other W101 (Or.inr (slot_ne (Or.inl (hw _ (List.mem_of_getElem? (i := 11) rfl))) (Or.inl (hw _ (List.mem_of_getElem? (i := 20) rfl))) (by decide) (t := (.array .int)) (t' := .int) (by decide) (by decide))))
      have F_137 : Fld Z h101 o0 "com/example/futures_from_states/futuresfromstates/model/Choices" "counts" "[I" (.ref cb) := ((F_counts_o0.other W96 (Or.inr (slot_ne (Or.inl (hw _ (List.mem_of_getElem? (i := 13) rfl))) (Or.inl (hw _ (List.mem_of_getElem? (i := 22) rfl))) (by decide) (t := (.array .int)) (t' := .int) (by decide) (by decide)))).other W101 (Or.inr (slot_ne (Or.inl (hw _ (List.mem_of_getElem? (i := 13) rfl))) (Or.inl (hw _ (List.mem_of_getElem? (i := 20) rfl))) (by decide) (t := (.array .int)) (t' := .int) (by decide) (by decide))))
      have F_138 : Fld Z h101 o0 "com/example/futures_from_states/futuresfromstates/model/Choices" "replayed" "I" (.int (0 : Int32)) := (Fw96.other W101 (Or.inr (slot_ne (Or.inl (hw _ (List.mem_of_getElem? (i := 22) rfl))) (Or.inl (hw _ (List.mem_of_getElem? (i := 20) rfl))) (by decide) (t := .int) (t' := .int) (by decide) (by decide))))
      have V_139 : Arv Z h101 ca kc .int (16 : Int32) vc (.int (0 : Int32)) := ((V_ca.other W96 (Ne.symm ne_o0_ca)).other W101 (Ne.symm ne_o0_ca))
      refine ⟨_, _, K103.trans (retN X101 hx (t := .boolean) Bd.returns (by simp) (hb hby d5_71) hr), hrun, hended, _, _, rfl, ?_, ⟨_, rfl⟩, hW, hsame.mono (by decide) (by first | decide | omega)⟩
      show Q_rm5 Z o0 ca cb kc kt vc vt made rep h0 n0 _ T101.heap _
      rw [e101]
      exact ⟨(by unfold f_rm5; rw [if_neg hm2, if_neg hm1]), N101, K_134, E_135, F_136, F_137, Fw101, (by unfold u_rm5_4; rw [if_neg hm2, if_neg hm1]; exact F_138), (by unfold u_rm5_5; rw [if_neg hm2, if_neg hm1]; exact V_139)⟩
theorem own_ivc {b : Int} {p made rep m' : Int32} {vc vt c' t' : List Value} (h : own_iv b made vc vt) (hm : u_rm3_3 p made = m') (hc : u_rm3_5 p vc made rep = c') (ht : u_rm3_6 p vt made rep = t') (hb : b ≤ 8 := by decide) : own_iv (b + 1) m' c' t' := by
  obtain ⟨⟨h1, h2⟩, ⟨h3, h4⟩, h5, h6⟩ := h
  unfold u_rm3_3 at hm
  unfold u_rm3_5 at hc
  unfold u_rm3_6 at ht
  by_cases e : p = (1 : Int32)
  · rw [if_pos e] at hm hc ht; subst hm hc ht; exact ⟨⟨h1, by omega⟩, ⟨h3, h4⟩, h5, h6⟩
  · rw [if_neg e] at hm hc ht
    have g1 := Jvm.RoadKit.c_iadd made (1 : Int32)
    have g2 := Jvm.RoadKit.rng32 (made + (1 : Int32))
    have g3 := own_z1
    have hb1 : 0 ≤ m'.toInt ∧ m'.toInt ≤ b + 1 := by subst hm; omega
    by_cases f : made = rep
    · rw [if_pos f] at hc ht; subst hc ht
      exact ⟨hb1, ⟨by rw [List.length_set]; exact h3, by rw [List.length_set]; exact h4⟩, own_si _ _ _ h5, own_si _ _ _ h6⟩
    · rw [if_neg f] at hc ht; subst hc ht
      exact ⟨hb1, ⟨h3, h4⟩, h5, h6⟩
theorem own_ivn {made : Int32} {vc vt c' : List Value} (h : own_iv 2 made vc vt) (hc : u_rm5_5 vc vt made = c') : own_iv 0 (0 : Int32) c' vt := by
  obtain ⟨⟨h1, h2⟩, ⟨h3, h4⟩, h5, h6⟩ := h
  have key : c'.length = 16 ∧ ∀ k, c'.getD k (.int (0 : Int32)) = .int (own_gi (c'.getD k (.int (0 : Int32)))) := by
    subst hc
    unfold u_rm5_5
    repeat' split
    all_goals first | exact ⟨h3, h5⟩ | exact ⟨by rw [List.length_set]; exact h3, own_si _ _ _ h5⟩
  exact ⟨⟨by rw [own_z0]; omega, by rw [own_z0]; omega⟩, ⟨key.1, h4⟩, key.2, h6⟩
theorem own_w01 {made : Int32} {vc vt : List Value} (h : own_iv 0 made vc vt) : own_iv 1 made vc vt := ⟨⟨h.1.1, by have := h.1.2; omega⟩, h.2⟩
theorem own_c4 (p : Int32) : ((p &&& (3 : Int32)) + (1 : Int32)) = (1 : Int32) ∨ ((p &&& (3 : Int32)) + (1 : Int32)) = (2 : Int32) ∨ ((p &&& (3 : Int32)) + (1 : Int32)) = (3 : Int32) ∨ ((p &&& (3 : Int32)) + (1 : Int32)) = (4 : Int32) := by
  have h := Jvm.RoadKit.c_mask p (3 : Int32) 2 (by decide) (by decide)
  have h1 := Jvm.RoadKit.c_iadd (p &&& (3 : Int32)) (1 : Int32)
  have h2 := Jvm.RoadKit.rng32 ((p &&& (3 : Int32)) + (1 : Int32))
  have e1 := own_z1
  have e2 := own_z2
  have e3 : (3 : Int32).toInt = 3 := rfl
  have e4 : (4 : Int32).toInt = 4 := rfl
  rw [own_eq32, own_eq32, own_eq32, own_eq32]
  omega
theorem own_pos {p b : Int32} (h : ((p &&& (3 : Int32)) + (1 : Int32)) = b) : b ≠ 0 := by
  rcases own_c4 p with q | q | q | q <;> rw [← h, q] <;> decide
theorem own_tot {p q r a b0 b1 tot : Int32} (ha : ((p &&& (3 : Int32)) + (1 : Int32)) = a) (hb0 : ((q &&& (3 : Int32)) + (1 : Int32)) = b0) (hb1 : ((r &&& (3 : Int32)) + (1 : Int32)) = b1) (ht : (b0 + ((a - (1 : Int32)) * b1)) = tot) : tot ≠ 0 := by
  rcases own_c4 p with x | x | x | x <;> rcases own_c4 q with y | y | y | y <;> rcases own_c4 r with z | z | z | z <;> rw [x] at ha <;> rw [y] at hb0 <;> rw [z] at hb1 <;> subst ha hb0 hb1 ht <;> decide
theorem own_rep (n k : Nat) : (List.replicate n (Value.int (0 : Int32))).getD k (.int (0 : Int32)) = .int (0 : Int32) := by
  by_cases h : k < n
  · simp [List.getD, List.getElem?_replicate, h]
  · simp [List.getD, List.getElem?_replicate, h]
theorem own_iv0 : own_iv 0 (0 : Int32) [(.int (0 : Int32)), (.int (0 : Int32)), (.int (0 : Int32)), (.int (0 : Int32)), (.int (0 : Int32)), (.int (0 : Int32)), (.int (0 : Int32)), (.int (0 : Int32)), (.int (0 : Int32)), (.int (0 : Int32)), (.int (0 : Int32)), (.int (0 : Int32)), (.int (0 : Int32)), (.int (0 : Int32)), (.int (0 : Int32)), (.int (0 : Int32))] [(.int (0 : Int32)), (.int (0 : Int32)), (.int (0 : Int32)), (.int (0 : Int32)), (.int (0 : Int32)), (.int (0 : Int32)), (.int (0 : Int32)), (.int (0 : Int32)), (.int (0 : Int32)), (.int (0 : Int32)), (.int (0 : Int32)), (.int (0 : Int32)), (.int (0 : Int32)), (.int (0 : Int32)), (.int (0 : Int32)), (.int (0 : Int32))] := by
  have k : ∀ k, (List.replicate 16 (Value.int (0 : Int32))).getD k (.int (0 : Int32)) = .int (own_gi ((List.replicate 16 (Value.int (0 : Int32))).getD k (.int (0 : Int32)))) := fun k => by
    rw [own_rep]; rfl
  exact ⟨⟨by decide, by decide⟩, ⟨rfl, rfl⟩, k, k⟩

theorem pd_0 : parseMethodDescriptor "()V" = some ⟨[], none⟩ := by decide +kernel
theorem pd_1 : parseMethodDescriptor "(I)I" = some ⟨[.int], some .int⟩ := by decide +kernel
theorem pd_2 : parseMethodDescriptor "(IIIIII)Z" = some ⟨[.int, .int, .int, .int, .int, .int], some .boolean⟩ := by decide +kernel
theorem pd_3 : parseMethodDescriptor "()Z" = some ⟨[], some .boolean⟩ := by decide +kernel
theorem pd_4 : parseMethodDescriptor "(II)Z" = some ⟨[.int, .int], some .boolean⟩ := by decide +kernel
def Q_rm0 (n0 : Nat) (v : Option Value) (L : List Loc) : Prop := v = some (.int 1) ∧ Fr n0 L
theorem pn_0 : plainName "com/example/futures_from_states/futuresfromstates/model/ChoicesNextPinLaw" = true := by first | (simp [plainName, overriddenIn]; done) | decide +kernel
theorem ef_0 (m : MethodId) (x0 : Int32) (x1 : Int32) (x2 : Int32) : entryFrame m #[(.int x0), (.int x1), (.int x2)] maxLocals = mkF m 0 #[.val (.int x0), .val (.int x1), .val (.int x2), .unset, .unset, .unset, .unset, .unset, .unset, .unset, .unset, .unset, .unset, .unset, .unset, .unset, .unset, .unset] [] := by first | (simp [entryFrame, mkF, argsToLocals, Value.category, maxLocals]; done) | rfl
set_option maxRecDepth 65536 in
set_option maxHeartbeats 4000000 in
theorem own_law_0 (p0 : Int32) (p1 : Int32) (p2 : Int32) (a : Int32) (b0 : Int32) (b1 : Int32) (tot : Int32) (r15 : Int32) (m11 : Int32) (s11 : Int32) (c11 : List Value) (t11 : List Value) (v18_0 : Int32) (r24 : Int32) (m12 : Int32) (s12 : Int32) (c12 : List Value) (t12 : List Value) (r29 : Int32) (v31_0 : Int32) (r37 : Int32) (s13 : Int32) (c13 : List Value) (v40_0 : Int32) (r54 : Int32) (m21 : Int32) (s21 : Int32) (c21 : List Value) (t21 : List Value) (v57_0 : Int32) (r63 : Int32) (m22 : Int32) (s22 : Int32) (c22 : List Value) (t22 : List Value) (v66_0 : Int32) (r79 : Int32) (s23 : Int32) (c23 : List Value) (v82_0 : Int32) (r96 : Int32) (m31 : Int32) (s31 : Int32) (c31 : List Value) (t31 : List Value) (v99_0 : Int32) (r105 : Int32) (m32 : Int32) (s32 : Int32) (c32 : List Value) (t32 : List Value) (v108_0 : Int32) (r121 : Int32) (s33 : Int32) (c33 : List Value) (v124_0 : Int32) (ha : ((p0 &&& (3 : Int32)) + (1 : Int32)) = a) (hb0 : ((p1 &&& (3 : Int32)) + (1 : Int32)) = b0) (hb1 : ((p2 &&& (3 : Int32)) + (1 : Int32)) = b1) (htot : (b0 + ((a - (1 : Int32)) * b1)) = tot) (hr15 : (f_rm3 a ([(.int (0 : Int32)), (.int (0 : Int32)), (.int (0 : Int32)), (.int (0 : Int32)), (.int (0 : Int32)), (.int (0 : Int32)), (.int (0 : Int32)), (.int (0 : Int32)), (.int (0 : Int32)), (.int (0 : Int32)), (.int (0 : Int32)), (.int (0 : Int32)), (.int (0 : Int32)), (.int (0 : Int32)), (.int (0 : Int32)), (.int (0 : Int32))]) (0 : Int32) (0 : Int32)) = r15) (hm11 : (u_rm3_3 a (0 : Int32)) = m11) (hs11 : (u_rm3_4 a (0 : Int32) (0 : Int32)) = s11) (hc11 : (u_rm3_5 a ([(.int (0 : Int32)), (.int (0 : Int32)), (.int (0 : Int32)), (.int (0 : Int32)), (.int (0 : Int32)), (.int (0 : Int32)), (.int (0 : Int32)), (.int (0 : Int32)), (.int (0 : Int32)), (.int (0 : Int32)), (.int (0 : Int32)), (.int (0 : Int32)), (.int (0 : Int32)), (.int (0 : Int32)), (.int (0 : Int32)), (.int (0 : Int32))]) (0 : Int32) (0 : Int32)) = c11) (ht11 : (u_rm3_6 a ([(.int (0 : Int32)), (.int (0 : Int32)), (.int (0 : Int32)), (.int (0 : Int32)), (.int (0 : Int32)), (.int (0 : Int32)), (.int (0 : Int32)), (.int (0 : Int32)), (.int (0 : Int32)), (.int (0 : Int32)), (.int (0 : Int32)), (.int (0 : Int32)), (.int (0 : Int32)), (.int (0 : Int32)), (.int (0 : Int32)), (.int (0 : Int32))]) (0 : Int32) (0 : Int32)) = t11) (hv18_0 : (if r15 = (0 : Int32) then b0 else b1) = v18_0) (hr24 : (f_rm3 v18_0 c11 m11 s11) = r24) (hm12 : (u_rm3_3 v18_0 m11) = m12) (hs12 : (u_rm3_4 v18_0 m11 s11) = s12) (hc12 : (u_rm3_5 v18_0 c11 m11 s11) = c12) (ht12 : (u_rm3_6 v18_0 t11 m11 s11) = t12) (hr29 : ((if r15 = (if ((0 : Int32) % tot) < b0 then (0 : Int32) else ((1 : Int32) + ((((0 : Int32) % tot) - b0) / b1))) then (if r24 = (if ((0 : Int32) % tot) < b0 then ((0 : Int32) % tot) else ((((0 : Int32) % tot) - b0) % b1)) then (1 : Int32) else (0 : Int32)) else (0 : Int32)) &&& 1) = r29) (hv31_0 : (if r29 = (0 : Int32) then (0 : Int32) else (1 : Int32)) = v31_0) (hr37 : (f_rm5 c12 t12 m12) = r37) (hs13 : (u_rm5_4 c12 t12 m12) = s13) (hc13 : (u_rm5_5 c12 t12 m12) = c13) (hv40_0 : (if v31_0 = (0 : Int32) then (0 : Int32) else (if r37 = ((if ((0 : Int32) % tot) = (tot - (1 : Int32)) then (0 : Int32) else (1 : Int32)) &&& 1) then (1 : Int32) else (0 : Int32))) = v40_0) (hr54 : (f_rm3 a c13 (0 : Int32) s13) = r54) (hm21 : (u_rm3_3 a (0 : Int32)) = m21) (hs21 : (u_rm3_4 a (0 : Int32) s13) = s21) (hc21 : (u_rm3_5 a c13 (0 : Int32) s13) = c21) (ht21 : (u_rm3_6 a t12 (0 : Int32) s13) = t21) (hv57_0 : (if r54 = (0 : Int32) then b0 else b1) = v57_0) (hr63 : (f_rm3 v57_0 c21 m21 s21) = r63) (hm22 : (u_rm3_3 v57_0 m21) = m22) (hs22 : (u_rm3_4 v57_0 m21 s21) = s22) (hc22 : (u_rm3_5 v57_0 c21 m21 s21) = c22) (ht22 : (u_rm3_6 v57_0 t21 m21 s21) = t22) (hv66_0 : (if v40_0 = (0 : Int32) then (0 : Int32) else (if ((if r54 = (if ((1 : Int32) % tot) < b0 then (0 : Int32) else ((1 : Int32) + ((((1 : Int32) % tot) - b0) / b1))) then (if r63 = (if ((1 : Int32) % tot) < b0 then ((1 : Int32) % tot) else ((((1 : Int32) % tot) - b0) % b1)) then (1 : Int32) else (0 : Int32)) else (0 : Int32)) &&& 1) = (0 : Int32) then (0 : Int32) else (1 : Int32))) = v66_0) (hr79 : (f_rm5 c22 t22 m22) = r79) (hs23 : (u_rm5_4 c22 t22 m22) = s23) (hc23 : (u_rm5_5 c22 t22 m22) = c23) (hv82_0 : (if v66_0 = (0 : Int32) then (0 : Int32) else (if r79 = ((if ((1 : Int32) % tot) = (tot - (1 : Int32)) then (0 : Int32) else (1 : Int32)) &&& 1) then (1 : Int32) else (0 : Int32))) = v82_0) (hr96 : (f_rm3 a c23 (0 : Int32) s23) = r96) (hm31 : (u_rm3_3 a (0 : Int32)) = m31) (hs31 : (u_rm3_4 a (0 : Int32) s23) = s31) (hc31 : (u_rm3_5 a c23 (0 : Int32) s23) = c31) (ht31 : (u_rm3_6 a t22 (0 : Int32) s23) = t31) (hv99_0 : (if r96 = (0 : Int32) then b0 else b1) = v99_0) (hr105 : (f_rm3 v99_0 c31 m31 s31) = r105) (hm32 : (u_rm3_3 v99_0 m31) = m32) (hs32 : (u_rm3_4 v99_0 m31 s31) = s32) (hc32 : (u_rm3_5 v99_0 c31 m31 s31) = c32) (ht32 : (u_rm3_6 v99_0 t31 m31 s31) = t32) (hv108_0 : (if v82_0 = (0 : Int32) then (0 : Int32) else (if ((if r96 = (if ((2 : Int32) % tot) < b0 then (0 : Int32) else ((1 : Int32) + ((((2 : Int32) % tot) - b0) / b1))) then (if r105 = (if ((2 : Int32) % tot) < b0 then ((2 : Int32) % tot) else ((((2 : Int32) % tot) - b0) % b1)) then (1 : Int32) else (0 : Int32)) else (0 : Int32)) &&& 1) = (0 : Int32) then (0 : Int32) else (1 : Int32))) = v108_0) (hr121 : (f_rm5 c32 t32 m32) = r121) (hs33 : (u_rm5_4 c32 t32 m32) = s33) (hc33 : (u_rm5_5 c32 t32 m32) = c33) (hv124_0 : (if v108_0 = (0 : Int32) then (0 : Int32) else (if r121 = ((if ((2 : Int32) % tot) = (tot - (1 : Int32)) then (0 : Int32) else (1 : Int32)) &&& 1) then (1 : Int32) else (0 : Int32))) = v124_0) : (v124_0 &&& 1) = (1 : Int32) := by
  rcases own_c4 p0 with h | h | h | h <;> rcases own_c4 p1 with g | g | g | g <;> rcases own_c4 p2 with f | f | f | f <;> rw [h] at ha <;> rw [g] at hb0 <;> rw [f] at hb1 <;> subst ha hb0 hb1 htot hr15 hm11 hs11 hc11 ht11 hv18_0 hr24 hm12 hs12 hc12 ht12 hr29 hv31_0 hr37 hs13 hc13 hv40_0 hr54 hm21 hs21 hc21 ht21 hv57_0 hr63 hm22 hs22 hc22 ht22 hv66_0 hr79 hs23 hc23 hv82_0 hr96 hm31 hs31 hc31 ht31 hv99_0 hr105 hm32 hs32 hc32 ht32 hv108_0 hr121 hs33 hc33 hv124_0 <;> decide +kernel
set_option maxRecDepth 65536 in
set_option maxHeartbeats 40000000 in
theorem rm0 (l : Launch) (Z : State) (a0 : Array Value) (hw : ∀ d ∈ tables_1, d.before a0 Z = true) (ws : List Jvm.Cond) (p0 : Int32) (p1 : Int32) (p2 : Int32) (h0 : Heap) (n0 : Nat) (Z0 : n0 ≤ h0.size) :
    MetFree l x (head1 (Jvm.Cond.code x code maxLocals ret :: ws) room_1) (fun a U => a = #[(.int p0), (.int p1), (.int p2)] ∧ Z.Warmed39 U.vm ∧ U.heap = h0) (fun _ _ _ _ _ => True) (fun _ U o U' => ∃ v L, o = .returned v ∧ Q_rm0 n0 v L ∧ FrameEnd U o U' L 3 36) := by
  refine MetFree.of_bodySF (plainFor_of_name pn_0) hisR ?_
  intro p e s m args below meth c s₁ Bd hml0 hP hK
  obtain ⟨rfl, hZ, hh⟩ := hP
  have hx := Bd.exec
  have hby := Bd.bytes
  have hml : c.maxLocals = 18 := hml0
  have hown : s.vm.findClass "com/example/futures_from_states/futuresfromstates/model/ChoicesNextPinLaw" = some m.cls := findClass_of_methodNamed Bd.named
  have hnm := (name_of_methodNamed Bd.named Bd.method).1
  have X0 : Stand p l e room_1 s m #[(.int p0), (.int p1), (.int p2)] below meth c s₁ [] 0 0 := Stand.of_body Bd
  have e0 : s₁.heap = h0 := by rw [← hh, Bd.state]; rfl
  have N0 := Fr.nil n0
  have K0 : Steps p.tables e below (s₁.setTop (entryFrame m #[(.int p0), (.int p1), (.int p2)] maxLocals)) (s₁.setTop (mkF m 0 #[.val (.int p0), .val (.int p1), .val (.int p2), .unset, .unset, .unset, .unset, .unset, .unset, .unset, .unset, .unset, .unset, .unset, .unset, .unset, .unset, .unset] [])) := castTop (ef_0 m p0 p1 p2) (Steps.refl _)
  have K1 : Steps p.tables e below _ (s₁.setTop (mkF m 5 #[.val (.int p0), .val (.int p1), .val (.int p2), .unset, .unset, .unset, .unset, .unset, .unset, .unset, .unset, .unset, .unset, .unset, .unset, .unset, .unset, .unset] [(.int ((p0 &&& (3 : Int32)) + (1 : Int32)))])) := K0.trans (by
    show Steps p.tables e below (s₁.setTop (mkF m 0 #[.val (.int p0), .val (.int p1), .val (.int p2), .unset, .unset, .unset, .unset, .unset, .unset, .unset, .unset, .unset, .unset, .unset, .unset, .unset, .unset, .unset] [])) _
    refine XS.iloadN X0.here hx rfl (hb hby at_0) rfl ?_
    show Steps p.tables e below (s₁.setTop (mkF m 1 #[.val (.int p0), .val (.int p1), .val (.int p2), .unset, .unset, .unset, .unset, .unset, .unset, .unset, .unset, .unset, .unset, .unset, .unset, .unset, .unset, .unset] [(.int p0)])) _
    refine XS.iconst X0.here hx rfl (hb hby at_1) ?_
    show Steps p.tables e below (s₁.setTop (mkF m 2 #[.val (.int p0), .val (.int p1), .val (.int p2), .unset, .unset, .unset, .unset, .unset, .unset, .unset, .unset, .unset, .unset, .unset, .unset, .unset, .unset, .unset] [(.int (3 : Int32)), (.int p0)])) _
    refine XS.iand X0.here hx rfl (hb hby at_2) rfl ?_
    show Steps p.tables e below (s₁.setTop (mkF m 3 #[.val (.int p0), .val (.int p1), .val (.int p2), .unset, .unset, .unset, .unset, .unset, .unset, .unset, .unset, .unset, .unset, .unset, .unset, .unset, .unset, .unset] [(.int (p0 &&& (3 : Int32)))])) _
    refine XS.iconst X0.here hx rfl (hb hby at_3) ?_
    show Steps p.tables e below (s₁.setTop (mkF m 4 #[.val (.int p0), .val (.int p1), .val (.int p2), .unset, .unset, .unset, .unset, .unset, .unset, .unset, .unset, .unset, .unset, .unset, .unset, .unset, .unset, .unset] [(.int (1 : Int32)), (.int (p0 &&& (3 : Int32)))])) _
    refine XS.iadd X0.here hx rfl (hb hby at_4) rfl ?_
    show Steps p.tables e below (s₁.setTop (mkF m 5 #[.val (.int p0), .val (.int p1), .val (.int p2), .unset, .unset, .unset, .unset, .unset, .unset, .unset, .unset, .unset, .unset, .unset, .unset, .unset, .unset, .unset] [(.int ((p0 &&& (3 : Int32)) + (1 : Int32)))])) _
    exact Steps.refl _)
  obtain ⟨a, ha⟩ : ∃ z : Int32, ((p0 &&& (3 : Int32)) + (1 : Int32)) = z := ⟨_, rfl⟩
  rw [ha] at K1
  have ha' := ha
  have K2 : Steps p.tables e below _ (s₁.setTop (mkF m 11 #[.val (.int p0), .val (.int p1), .val (.int p2), .val (.int a), .unset, .unset, .unset, .unset, .unset, .unset, .unset, .unset, .unset, .unset, .unset, .unset, .unset, .unset] [(.int ((p1 &&& (3 : Int32)) + (1 : Int32)))])) := K1.trans (by
    show Steps p.tables e below (s₁.setTop (mkF m 5 #[.val (.int p0), .val (.int p1), .val (.int p2), .unset, .unset, .unset, .unset, .unset, .unset, .unset, .unset, .unset, .unset, .unset, .unset, .unset, .unset, .unset] [(.int a)])) _
    refine XS.istoreN X0.here hx rfl (hb hby at_5) rfl (l' := #[.val (.int p0), .val (.int p1), .val (.int p2), .val (.int a), .unset, .unset, .unset, .unset, .unset, .unset, .unset, .unset, .unset, .unset, .unset, .unset, .unset, .unset]) rfl ?_
    show Steps p.tables e below (s₁.setTop (mkF m 6 #[.val (.int p0), .val (.int p1), .val (.int p2), .val (.int a), .unset, .unset, .unset, .unset, .unset, .unset, .unset, .unset, .unset, .unset, .unset, .unset, .unset, .unset] [])) _
    refine XS.iloadN X0.here hx rfl (hb hby at_6) rfl ?_
    show Steps p.tables e below (s₁.setTop (mkF m 7 #[.val (.int p0), .val (.int p1), .val (.int p2), .val (.int a), .unset, .unset, .unset, .unset, .unset, .unset, .unset, .unset, .unset, .unset, .unset, .unset, .unset, .unset] [(.int p1)])) _
    refine XS.iconst X0.here hx rfl (hb hby at_7) ?_
    show Steps p.tables e below (s₁.setTop (mkF m 8 #[.val (.int p0), .val (.int p1), .val (.int p2), .val (.int a), .unset, .unset, .unset, .unset, .unset, .unset, .unset, .unset, .unset, .unset, .unset, .unset, .unset, .unset] [(.int (3 : Int32)), (.int p1)])) _
    refine XS.iand X0.here hx rfl (hb hby at_8) rfl ?_
    show Steps p.tables e below (s₁.setTop (mkF m 9 #[.val (.int p0), .val (.int p1), .val (.int p2), .val (.int a), .unset, .unset, .unset, .unset, .unset, .unset, .unset, .unset, .unset, .unset, .unset, .unset, .unset, .unset] [(.int (p1 &&& (3 : Int32)))])) _
    refine XS.iconst X0.here hx rfl (hb hby at_9) ?_
    show Steps p.tables e below (s₁.setTop (mkF m 10 #[.val (.int p0), .val (.int p1), .val (.int p2), .val (.int a), .unset, .unset, .unset, .unset, .unset, .unset, .unset, .unset, .unset, .unset, .unset, .unset, .unset, .unset] [(.int (1 : Int32)), (.int (p1 &&& (3 : Int32)))])) _
    refine XS.iadd X0.here hx rfl (hb hby at_10) rfl ?_
    show Steps p.tables e below (s₁.setTop (mkF m 11 #[.val (.int p0), .val (.int p1), .val (.int p2), .val (.int a), .unset, .unset, .unset, .unset, .unset, .unset, .unset, .unset, .unset, .unset, .unset, .unset, .unset, .unset] [(.int ((p1 &&& (3 : Int32)) + (1 : Int32)))])) _
    exact Steps.refl _)
  obtain ⟨b0, hb0⟩ : ∃ z : Int32, ((p1 &&& (3 : Int32)) + (1 : Int32)) = z := ⟨_, rfl⟩
  rw [hb0] at K2
  have K3 : Steps p.tables e below _ (s₁.setTop (mkF m 18 #[.val (.int p0), .val (.int p1), .val (.int p2), .val (.int a), .val (.int b0), .unset, .unset, .unset, .unset, .unset, .unset, .unset, .unset, .unset, .unset, .unset, .unset, .unset] [(.int ((p2 &&& (3 : Int32)) + (1 : Int32)))])) := K2.trans (by
    show Steps p.tables e below (s₁.setTop (mkF m 11 #[.val (.int p0), .val (.int p1), .val (.int p2), .val (.int a), .unset, .unset, .unset, .unset, .unset, .unset, .unset, .unset, .unset, .unset, .unset, .unset, .unset, .unset] [(.int b0)])) _
    refine XS.istore X0.here hx rfl (hb hby at_11) rfl (l' := #[.val (.int p0), .val (.int p1), .val (.int p2), .val (.int a), .val (.int b0), .unset, .unset, .unset, .unset, .unset, .unset, .unset, .unset, .unset, .unset, .unset, .unset, .unset]) rfl ?_
    show Steps p.tables e below (s₁.setTop (mkF m 13 #[.val (.int p0), .val (.int p1), .val (.int p2), .val (.int a), .val (.int b0), .unset, .unset, .unset, .unset, .unset, .unset, .unset, .unset, .unset, .unset, .unset, .unset, .unset] [])) _
    refine XS.iloadN X0.here hx rfl (hb hby at_13) rfl ?_
    show Steps p.tables e below (s₁.setTop (mkF m 14 #[.val (.int p0), .val (.int p1), .val (.int p2), .val (.int a), .val (.int b0), .unset, .unset, .unset, .unset, .unset, .unset, .unset, .unset, .unset, .unset, .unset, .unset, .unset] [(.int p2)])) _
    refine XS.iconst X0.here hx rfl (hb hby at_14) ?_
    show Steps p.tables e below (s₁.setTop (mkF m 15 #[.val (.int p0), .val (.int p1), .val (.int p2), .val (.int a), .val (.int b0), .unset, .unset, .unset, .unset, .unset, .unset, .unset, .unset, .unset, .unset, .unset, .unset, .unset] [(.int (3 : Int32)), (.int p2)])) _
    refine XS.iand X0.here hx rfl (hb hby at_15) rfl ?_
    show Steps p.tables e below (s₁.setTop (mkF m 16 #[.val (.int p0), .val (.int p1), .val (.int p2), .val (.int a), .val (.int b0), .unset, .unset, .unset, .unset, .unset, .unset, .unset, .unset, .unset, .unset, .unset, .unset, .unset] [(.int (p2 &&& (3 : Int32)))])) _
    refine XS.iconst X0.here hx rfl (hb hby at_16) ?_
    show Steps p.tables e below (s₁.setTop (mkF m 17 #[.val (.int p0), .val (.int p1), .val (.int p2), .val (.int a), .val (.int b0), .unset, .unset, .unset, .unset, .unset, .unset, .unset, .unset, .unset, .unset, .unset, .unset, .unset] [(.int (1 : Int32)), (.int (p2 &&& (3 : Int32)))])) _
    refine XS.iadd X0.here hx rfl (hb hby at_17) rfl ?_
    show Steps p.tables e below (s₁.setTop (mkF m 18 #[.val (.int p0), .val (.int p1), .val (.int p2), .val (.int a), .val (.int b0), .unset, .unset, .unset, .unset, .unset, .unset, .unset, .unset, .unset, .unset, .unset, .unset, .unset] [(.int ((p2 &&& (3 : Int32)) + (1 : Int32)))])) _
    exact Steps.refl _)
  obtain ⟨b1, hb1⟩ : ∃ z : Int32, ((p2 &&& (3 : Int32)) + (1 : Int32)) = z := ⟨_, rfl⟩
  rw [hb1] at K3
  have K4 : Steps p.tables e below _ (s₁.setTop (mkF m 29 #[.val (.int p0), .val (.int p1), .val (.int p2), .val (.int a), .val (.int b0), .val (.int b1), .unset, .unset, .unset, .unset, .unset, .unset, .unset, .unset, .unset, .unset, .unset, .unset] [(.int (b0 + ((a - (1 : Int32)) * b1)))])) := K3.trans (by
    show Steps p.tables e below (s₁.setTop (mkF m 18 #[.val (.int p0), .val (.int p1), .val (.int p2), .val (.int a), .val (.int b0), .unset, .unset, .unset, .unset, .unset, .unset, .unset, .unset, .unset, .unset, .unset, .unset, .unset] [(.int b1)])) _
    refine XS.istore X0.here hx rfl (hb hby at_18) rfl (l' := #[.val (.int p0), .val (.int p1), .val (.int p2), .val (.int a), .val (.int b0), .val (.int b1), .unset, .unset, .unset, .unset, .unset, .unset, .unset, .unset, .unset, .unset, .unset, .unset]) rfl ?_
    show Steps p.tables e below (s₁.setTop (mkF m 20 #[.val (.int p0), .val (.int p1), .val (.int p2), .val (.int a), .val (.int b0), .val (.int b1), .unset, .unset, .unset, .unset, .unset, .unset, .unset, .unset, .unset, .unset, .unset, .unset] [])) _
    refine XS.iload X0.here hx rfl (hb hby at_20) rfl ?_
    show Steps p.tables e below (s₁.setTop (mkF m 22 #[.val (.int p0), .val (.int p1), .val (.int p2), .val (.int a), .val (.int b0), .val (.int b1), .unset, .unset, .unset, .unset, .unset, .unset, .unset, .unset, .unset, .unset, .unset, .unset] [(.int b0)])) _
    refine XS.iloadN X0.here hx rfl (hb hby at_22) rfl ?_
    show Steps p.tables e below (s₁.setTop (mkF m 23 #[.val (.int p0), .val (.int p1), .val (.int p2), .val (.int a), .val (.int b0), .val (.int b1), .unset, .unset, .unset, .unset, .unset, .unset, .unset, .unset, .unset, .unset, .unset, .unset] [(.int a), (.int b0)])) _
    refine XS.iconst X0.here hx rfl (hb hby at_23) ?_
    show Steps p.tables e below (s₁.setTop (mkF m 24 #[.val (.int p0), .val (.int p1), .val (.int p2), .val (.int a), .val (.int b0), .val (.int b1), .unset, .unset, .unset, .unset, .unset, .unset, .unset, .unset, .unset, .unset, .unset, .unset] [(.int (1 : Int32)), (.int a), (.int b0)])) _
    refine XS.isub X0.here hx rfl (hb hby at_24) rfl ?_
    show Steps p.tables e below (s₁.setTop (mkF m 25 #[.val (.int p0), .val (.int p1), .val (.int p2), .val (.int a), .val (.int b0), .val (.int b1), .unset, .unset, .unset, .unset, .unset, .unset, .unset, .unset, .unset, .unset, .unset, .unset] [(.int (a - (1 : Int32))), (.int b0)])) _
    refine XS.iload X0.here hx rfl (hb hby at_25) rfl ?_
    show Steps p.tables e below (s₁.setTop (mkF m 27 #[.val (.int p0), .val (.int p1), .val (.int p2), .val (.int a), .val (.int b0), .val (.int b1), .unset, .unset, .unset, .unset, .unset, .unset, .unset, .unset, .unset, .unset, .unset, .unset] [(.int b1), (.int (a - (1 : Int32))), (.int b0)])) _
    refine XS.imul X0.here hx rfl (hb hby at_27) rfl ?_
    show Steps p.tables e below (s₁.setTop (mkF m 28 #[.val (.int p0), .val (.int p1), .val (.int p2), .val (.int a), .val (.int b0), .val (.int b1), .unset, .unset, .unset, .unset, .unset, .unset, .unset, .unset, .unset, .unset, .unset, .unset] [(.int ((a - (1 : Int32)) * b1)), (.int b0)])) _
    refine XS.iadd X0.here hx rfl (hb hby at_28) rfl ?_
    show Steps p.tables e below (s₁.setTop (mkF m 29 #[.val (.int p0), .val (.int p1), .val (.int p2), .val (.int a), .val (.int b0), .val (.int b1), .unset, .unset, .unset, .unset, .unset, .unset, .unset, .unset, .unset, .unset, .unset, .unset] [(.int (b0 + ((a - (1 : Int32)) * b1)))])) _
    exact Steps.refl _)
  obtain ⟨tot, htot⟩ : ∃ z : Int32, (b0 + ((a - (1 : Int32)) * b1)) = z := ⟨_, rfl⟩
  rw [htot] at K4
  have K5 : Steps p.tables e below _ (s₁.setTop (mkF m 31 #[.val (.int p0), .val (.int p1), .val (.int p2), .val (.int a), .val (.int b0), .val (.int b1), .val (.int tot), .unset, .unset, .unset, .unset, .unset, .unset, .unset, .unset, .unset, .unset, .unset] [])) := K4.trans (by
    show Steps p.tables e below (s₁.setTop (mkF m 29 #[.val (.int p0), .val (.int p1), .val (.int p2), .val (.int a), .val (.int b0), .val (.int b1), .unset, .unset, .unset, .unset, .unset, .unset, .unset, .unset, .unset, .unset, .unset, .unset] [(.int tot)])) _
    refine XS.istore X0.here hx rfl (hb hby at_29) rfl (l' := #[.val (.int p0), .val (.int p1), .val (.int p2), .val (.int a), .val (.int b0), .val (.int b1), .val (.int tot), .unset, .unset, .unset, .unset, .unset, .unset, .unset, .unset, .unset, .unset, .unset]) rfl ?_
    show Steps p.tables e below (s₁.setTop (mkF m 31 #[.val (.int p0), .val (.int p1), .val (.int p2), .val (.int a), .val (.int b0), .val (.int b1), .val (.int tot), .unset, .unset, .unset, .unset, .unset, .unset, .unset, .unset, .unset, .unset, .unset] [])) _
    exact Steps.refl _)
  obtain ⟨T6, h6, X6, e6, E6, A6, D6, -, st6⟩ := newO X0 hx hZ hown (hw _ (List.mem_of_getElem? (i := 0) rfl)) (hw _ (List.mem_of_getElem? (i := 1) rfl)) (hw _ (List.mem_of_getElem? (i := 2) rfl)) e0 (g := (mkF m 31 #[.val (.int p0), .val (.int p1), .val (.int p2), .val (.int a), .val (.int b0), .val (.int b1), .val (.int tot), .unset, .unset, .unset, .unset, .unset, .unset, .unset, .unset, .unset, .unset, .unset] [])) rfl (hb hby at_31) (by decide) (by decide)
  obtain ⟨b6, g6⟩ : ∃ z, z = h0.size := ⟨_, rfl⟩
  rw [← g6] at A6 D6 st6
  have ge_b6 : n0 ≤ b6 := Nat.le_trans Z0 (Nat.le_of_eq g6.symm)
  have K7 : Steps p.tables e below _ (T6.setTop (mkF m 34 #[.val (.int p0), .val (.int p1), .val (.int p2), .val (.int a), .val (.int b0), .val (.int b1), .val (.int tot), .unset, .unset, .unset, .unset, .unset, .unset, .unset, .unset, .unset, .unset, .unset] [(.ref b6)])) := K5.trans (st6 _ (Steps.refl _))
  have F6_chosen : Fld Z h6 b6 "com/example/futures_from_states/futuresfromstates/model/Choices" "chosen" "[I" .null := D6 (Or.inl (hw _ (List.mem_of_getElem? (i := 11) rfl))) (ty := (.array .int)) (by decide)
  have F6_counts : Fld Z h6 b6 "com/example/futures_from_states/futuresfromstates/model/Choices" "counts" "[I" .null := D6 (Or.inl (hw _ (List.mem_of_getElem? (i := 13) rfl))) (ty := (.array .int)) (by decide)
  have F6_made : Fld Z h6 b6 "com/example/futures_from_states/futuresfromstates/model/Choices" "made" "I" (.int (0 : Int32)) := D6 (Or.inl (hw _ (List.mem_of_getElem? (i := 20) rfl))) (ty := .int) (by decide)
  have F6_replayed : Fld Z h6 b6 "com/example/futures_from_states/futuresfromstates/model/Choices" "replayed" "I" (.int (0 : Int32)) := D6 (Or.inl (hw _ (List.mem_of_getElem? (i := 22) rfl))) (ty := .int) (by decide)
  have K8 : Steps p.tables e below _ (T6.setTop (mkF m 35 #[.val (.int p0), .val (.int p1), .val (.int p2), .val (.int a), .val (.int b0), .val (.int b1), .val (.int tot), .unset, .unset, .unset, .unset, .unset, .unset, .unset, .unset, .unset, .unset, .unset] [(.ref b6), (.ref b6)])) := K7.trans (by
    show Steps p.tables e below (T6.setTop (mkF m 34 #[.val (.int p0), .val (.int p1), .val (.int p2), .val (.int a), .val (.int b0), .val (.int b1), .val (.int tot), .unset, .unset, .unset, .unset, .unset, .unset, .unset, .unset, .unset, .unset, .unset] [(.ref b6)])) _
    refine XS.dup X6.here hx rfl (hb hby at_34) rfl rfl ?_
    show Steps p.tables e below (T6.setTop (mkF m 35 #[.val (.int p0), .val (.int p1), .val (.int p2), .val (.int a), .val (.int b0), .val (.int b1), .val (.int tot), .unset, .unset, .unset, .unset, .unset, .unset, .unset, .unset, .unset, .unset, .unset] [(.ref b6), (.ref b6)])) _
    exact Steps.refl _)
  have Z_9 : n0 ≤ h6.size := (Nat.le_trans Z0 E6.1)
  obtain ⟨_, _, ⟨T10, L10, k10, n10⟩, -, X10, ⟨Lc10, hQ10, l10, y10, z10⟩, st10⟩ := X6.specialBack hx (y := (⟨"com/example/futures_from_states/futuresfromstates/model/Choices", "<init>", "()V"⟩ : MethodName)) rfl hown (mvT hZ (hw _ (List.mem_of_getElem? (i := 3) rfl))) (mvT hZ (hw _ (List.mem_of_getElem? (i := 4) rfl))) (mvT hZ (hw _ (List.mem_of_getElem? (i := 5) rfl))) (by decide) (backOf (W := 1) (rm1 l Z a0 hw [] b6 (0 : Int32) (0 : Int32) .null .null h6 n0 Z_9 A6 F6_made F6_replayed ge_b6 F6_chosen F6_counts) hZ (hw _ (List.mem_of_getElem? (i := 5) rfl)) (hw _ (List.mem_of_getElem? (i := 2) rfl)) (by decide) (by decide)) (g := (mkF m 35 #[.val (.int p0), .val (.int p1), .val (.int p2), .val (.int a), .val (.int b0), .val (.int b1), .val (.int tot), .unset, .unset, .unset, .unset, .unset, .unset, .unset, .unset, .unset, .unset, .unset] [(.ref b6), (.ref b6)])) rfl (by rw [hml]; rfl) K8 (a := b6) (argsL := []) (rest := [(.ref b6)]) (lenOf pd_0 rfl) rfl (by show 2 * 0 + _ ≤ _; exact Nat.le_of_eq rfl) (hb hby at_35) (fun _ _ => ⟨rfl, e6, (by decide : 1 + 2 ≤ _), (by decide : 4 + 32 ≤ _)⟩)
  dsimp only [Pt.U, Pt.locs, Pt.cells, Pt.slots] at X10 l10 y10 z10 st10 hQ10
  subst l10 y10 z10
  obtain ⟨b10_b5, b10_b12, k5_10, k12_10, rfl, N10, Kp10, Q10_0, Q10_1, Q10_2, Q10_3, Q10_4, Q10_5, Q10_6, Q10_7, Q10_8, sz10_b5, sz10_b12, ne10_11⟩ := hQ10
  have ne_b6_b10_b5 : b6 ≠ b10_b5 := Nat.ne_of_lt (Nat.lt_of_lt_of_le A6.lt sz10_b5)
  have ge_b10_b5 : n0 ≤ b10_b5 := Nat.le_trans Z_9 sz10_b5
  have ne_b6_b10_b12 : b6 ≠ b10_b12 := Nat.ne_of_lt (Nat.lt_of_lt_of_le A6.lt sz10_b12)
  have ge_b10_b12 : n0 ≤ b10_b12 := Nat.le_trans Z_9 sz10_b12
  have N10' := Fr.app N0 N10
  have K11 : Steps p.tables e below _ (T10.setTop (mkF m 38 #[.val (.int p0), .val (.int p1), .val (.int p2), .val (.int a), .val (.int b0), .val (.int b1), .val (.int tot), .unset, .unset, .unset, .unset, .unset, .unset, .unset, .unset, .unset, .unset, .unset] [(.ref b6)])) := st10
  have hI0 := own_iv0
  have K12 : Steps p.tables e below _ (T10.setTop (mkF m 46 #[.val (.int p0), .val (.int p1), .val (.int p2), .val (.int a), .val (.int b0), .val (.int b1), .val (.int tot), .val (.ref b6), .val (.int (1 : Int32)), .unset, .unset, .unset, .unset, .unset, .unset, .unset, .unset, .unset] [(.int a), (.ref b6)])) := K11.trans (by
    show Steps p.tables e below (T10.setTop (mkF m 38 #[.val (.int p0), .val (.int p1), .val (.int p2), .val (.int a), .val (.int b0), .val (.int b1), .val (.int tot), .unset, .unset, .unset, .unset, .unset, .unset, .unset, .unset, .unset, .unset, .unset] [(.ref b6)])) _
    refine XS.astore X10.here hx rfl (hb hby at_38) rfl rfl (l' := #[.val (.int p0), .val (.int p1), .val (.int p2), .val (.int a), .val (.int b0), .val (.int b1), .val (.int tot), .val (.ref b6), .unset, .unset, .unset, .unset, .unset, .unset, .unset, .unset, .unset, .unset]) rfl ?_
    show Steps p.tables e below (T10.setTop (mkF m 40 #[.val (.int p0), .val (.int p1), .val (.int p2), .val (.int a), .val (.int b0), .val (.int b1), .val (.int tot), .val (.ref b6), .unset, .unset, .unset, .unset, .unset, .unset, .unset, .unset, .unset, .unset] [])) _
    refine XS.iconst X10.here hx rfl (hb hby at_40) ?_
    show Steps p.tables e below (T10.setTop (mkF m 41 #[.val (.int p0), .val (.int p1), .val (.int p2), .val (.int a), .val (.int b0), .val (.int b1), .val (.int tot), .val (.ref b6), .unset, .unset, .unset, .unset, .unset, .unset, .unset, .unset, .unset, .unset] [(.int (1 : Int32))])) _
    refine XS.istore X10.here hx rfl (hb hby at_41) rfl (l' := #[.val (.int p0), .val (.int p1), .val (.int p2), .val (.int a), .val (.int b0), .val (.int b1), .val (.int tot), .val (.ref b6), .val (.int (1 : Int32)), .unset, .unset, .unset, .unset, .unset, .unset, .unset, .unset, .unset]) rfl ?_
    show Steps p.tables e below (T10.setTop (mkF m 43 #[.val (.int p0), .val (.int p1), .val (.int p2), .val (.int a), .val (.int b0), .val (.int b1), .val (.int tot), .val (.ref b6), .val (.int (1 : Int32)), .unset, .unset, .unset, .unset, .unset, .unset, .unset, .unset, .unset] [])) _
    refine XS.aload X10.here hx rfl (hb hby at_43) rfl rfl ?_
    show Steps p.tables e below (T10.setTop (mkF m 45 #[.val (.int p0), .val (.int p1), .val (.int p2), .val (.int a), .val (.int b0), .val (.int b1), .val (.int tot), .val (.ref b6), .val (.int (1 : Int32)), .unset, .unset, .unset, .unset, .unset, .unset, .unset, .unset, .unset] [(.ref b6)])) _
    refine XS.iloadN X10.here hx rfl (hb hby at_45) rfl ?_
    show Steps p.tables e below (T10.setTop (mkF m 46 #[.val (.int p0), .val (.int p1), .val (.int p2), .val (.int a), .val (.int b0), .val (.int b1), .val (.int tot), .val (.ref b6), .val (.int (1 : Int32)), .unset, .unset, .unset, .unset, .unset, .unset, .unset, .unset, .unset] [(.int a), (.ref b6)])) _
    exact Steps.refl _)
  have Z_13 : n0 ≤ T10.heap.size := (Nat.le_trans Z_9 Kp10.1)
  obtain ⟨cq14, kq14, q14a, q14b, q14c⟩ := isOf hZ rfl Q10_0
  obtain ⟨_, _, ⟨T14, L14, k14, n14⟩, -, X14, ⟨Lc14, hQ14, l14, y14, z14⟩, st14⟩ := X10.virtualBack hx (y := (⟨"com/example/futures_from_states/futuresfromstates/model/Choices", "choose", "(I)I"⟩ : MethodName)) (z := (⟨"com/example/futures_from_states/futuresfromstates/model/Choices", "choose", "(I)I"⟩ : MethodName)) hown (mvT hZ (hw _ (List.mem_of_getElem? (i := 14) rfl))) (mvT hZ (hw _ (List.mem_of_getElem? (i := 15) rfl))) (notFace_of_selects (args := #[]) (mvT hZ (hw _ (List.mem_of_getElem? (i := 17) rfl)))) (mvT hZ (hw _ (List.mem_of_getElem? (i := 17) rfl))) (mvT hZ (hw _ (List.mem_of_getElem? (i := 16) rfl))) (by decide) (backOf (W := 0) (rm3 l Z a0 hw [] b6 a b10_b5 b10_b12 k5_10 k12_10 ([(.int (0 : Int32)), (.int (0 : Int32)), (.int (0 : Int32)), (.int (0 : Int32)), (.int (0 : Int32)), (.int (0 : Int32)), (.int (0 : Int32)), (.int (0 : Int32)), (.int (0 : Int32)), (.int (0 : Int32)), (.int (0 : Int32)), (.int (0 : Int32)), (.int (0 : Int32)), (.int (0 : Int32)), (.int (0 : Int32)), (.int (0 : Int32))]) ([(.int (0 : Int32)), (.int (0 : Int32)), (.int (0 : Int32)), (.int (0 : Int32)), (.int (0 : Int32)), (.int (0 : Int32)), (.int (0 : Int32)), (.int (0 : Int32)), (.int (0 : Int32)), (.int (0 : Int32)), (.int (0 : Int32)), (.int (0 : Int32)), (.int (0 : Int32)), (.int (0 : Int32)), (.int (0 : Int32)), (.int (0 : Int32))]) (0 : Int32) (0 : Int32) T10.heap n0 Z_13 Q10_0 Q10_5 Q10_8 Q10_1 Q10_2 Q10_3 Q10_6 ne_b6_b10_b5 ne_b6_b10_b12 ne10_11 ge_b6 ge_b10_b5 ge_b10_b12 (own_w01 hI0)) hZ (hw _ (List.mem_of_getElem? (i := 18) rfl)) (hw _ (List.mem_of_getElem? (i := 2) rfl)) (by decide) (by decide)) q14a q14c (g := (mkF m 46 #[.val (.int p0), .val (.int p1), .val (.int p2), .val (.int a), .val (.int b0), .val (.int b1), .val (.int tot), .val (.ref b6), .val (.int (1 : Int32)), .unset, .unset, .unset, .unset, .unset, .unset, .unset, .unset, .unset] [(.int a), (.ref b6)])) rfl (by rw [hml]; rfl) K12 (argsL := [(.int a)]) (rest := []) (lenOf pd_1 rfl) rfl (by show 2 * 0 + _ ≤ _; exact Nat.le_of_eq rfl) (hb hby at_46) (fun _ _ => ⟨rfl, rfl, (by decide : 3 + 0 ≤ _), (by decide : 36 + 0 ≤ _)⟩)
  dsimp only [Pt.U, Pt.locs, Pt.cells, Pt.slots] at X14 l14 y14 z14 st14 hQ14
  subst l14 y14 z14
  obtain ⟨rfl, N14, Kp14, Q14_0, Q14_1, Q14_2, Q14_3, Q14_4, Q14_5, Q14_6⟩ := hQ14
  have N14' := Fr.app N10' N14
  have K16 : Steps p.tables e below _ (T14.setTop (mkF m 49 #[.val (.int p0), .val (.int p1), .val (.int p2), .val (.int a), .val (.int b0), .val (.int b1), .val (.int tot), .val (.ref b6), .val (.int (1 : Int32)), .unset, .unset, .unset, .unset, .unset, .unset, .unset, .unset, .unset] [(.int (f_rm3 a ([(.int (0 : Int32)), (.int (0 : Int32)), (.int (0 : Int32)), (.int (0 : Int32)), (.int (0 : Int32)), (.int (0 : Int32)), (.int (0 : Int32)), (.int (0 : Int32)), (.int (0 : Int32)), (.int (0 : Int32)), (.int (0 : Int32)), (.int (0 : Int32)), (.int (0 : Int32)), (.int (0 : Int32)), (.int (0 : Int32)), (.int (0 : Int32))]) (0 : Int32) (0 : Int32)))])) := st14
  obtain ⟨r15, hr15⟩ : ∃ z : Int32, (f_rm3 a ([(.int (0 : Int32)), (.int (0 : Int32)), (.int (0 : Int32)), (.int (0 : Int32)), (.int (0 : Int32)), (.int (0 : Int32)), (.int (0 : Int32)), (.int (0 : Int32)), (.int (0 : Int32)), (.int (0 : Int32)), (.int (0 : Int32)), (.int (0 : Int32)), (.int (0 : Int32)), (.int (0 : Int32)), (.int (0 : Int32)), (.int (0 : Int32))]) (0 : Int32) (0 : Int32)) = z := ⟨_, rfl⟩
  rw [hr15] at K16
  obtain ⟨m11, hm11⟩ : ∃ z : Int32, (u_rm3_3 a (0 : Int32)) = z := ⟨_, rfl⟩
  rw [hm11] at Q14_3
  obtain ⟨s11, hs11⟩ : ∃ z : Int32, (u_rm3_4 a (0 : Int32) (0 : Int32)) = z := ⟨_, rfl⟩
  rw [hs11] at Q14_4
  obtain ⟨c11, hc11⟩ : ∃ z : List Value, (u_rm3_5 a ([(.int (0 : Int32)), (.int (0 : Int32)), (.int (0 : Int32)), (.int (0 : Int32)), (.int (0 : Int32)), (.int (0 : Int32)), (.int (0 : Int32)), (.int (0 : Int32)), (.int (0 : Int32)), (.int (0 : Int32)), (.int (0 : Int32)), (.int (0 : Int32)), (.int (0 : Int32)), (.int (0 : Int32)), (.int (0 : Int32)), (.int (0 : Int32))]) (0 : Int32) (0 : Int32)) = z := ⟨_, rfl⟩
  rw [hc11] at Q14_5
  obtain ⟨t11, ht11⟩ : ∃ z : List Value, (u_rm3_6 a ([(.int (0 : Int32)), (.int (0 : Int32)), (.int (0 : Int32)), (.int (0 : Int32)), (.int (0 : Int32)), (.int (0 : Int32)), (.int (0 : Int32)), (.int (0 : Int32)), (.int (0 : Int32)), (.int (0 : Int32)), (.int (0 : Int32)), (.int (0 : Int32)), (.int (0 : Int32)), (.int (0 : Int32)), (.int (0 : Int32)), (.int (0 : Int32))]) (0 : Int32) (0 : Int32)) = z := ⟨_, rfl⟩
  rw [ht11] at Q14_6
  have hI11 := own_ivc hI0 hm11 hc11 ht11
  have K17 : Steps p.tables e below _ (T14.setTop (mkF m 55 #[.val (.int p0), .val (.int p1), .val (.int p2), .val (.int a), .val (.int b0), .val (.int b1), .val (.int tot), .val (.ref b6), .val (.int (1 : Int32)), .val (.int r15), .unset, .unset, .unset, .unset, .unset, .unset, .unset, .unset] [(.int r15), (.ref b6)])) := K16.trans (by
    show Steps p.tables e below (T14.setTop (mkF m 49 #[.val (.int p0), .val (.int p1), .val (.int p2), .val (.int a), .val (.int b0), .val (.int b1), .val (.int tot), .val (.ref b6), .val (.int (1 : Int32)), .unset, .unset, .unset, .unset, .unset, .unset, .unset, .unset, .unset] [(.int r15)])) _
    refine XS.istore X14.here hx rfl (hb hby at_49) rfl (l' := #[.val (.int p0), .val (.int p1), .val (.int p2), .val (.int a), .val (.int b0), .val (.int b1), .val (.int tot), .val (.ref b6), .val (.int (1 : Int32)), .val (.int r15), .unset, .unset, .unset, .unset, .unset, .unset, .unset, .unset]) rfl ?_
    show Steps p.tables e below (T14.setTop (mkF m 51 #[.val (.int p0), .val (.int p1), .val (.int p2), .val (.int a), .val (.int b0), .val (.int b1), .val (.int tot), .val (.ref b6), .val (.int (1 : Int32)), .val (.int r15), .unset, .unset, .unset, .unset, .unset, .unset, .unset, .unset] [])) _
    refine XS.aload X14.here hx rfl (hb hby at_51) rfl rfl ?_
    show Steps p.tables e below (T14.setTop (mkF m 53 #[.val (.int p0), .val (.int p1), .val (.int p2), .val (.int a), .val (.int b0), .val (.int b1), .val (.int tot), .val (.ref b6), .val (.int (1 : Int32)), .val (.int r15), .unset, .unset, .unset, .unset, .unset, .unset, .unset, .unset] [(.ref b6)])) _
    refine XS.iload X14.here hx rfl (hb hby at_53) rfl ?_
    show Steps p.tables e below (T14.setTop (mkF m 55 #[.val (.int p0), .val (.int p1), .val (.int p2), .val (.int a), .val (.int b0), .val (.int b1), .val (.int tot), .val (.ref b6), .val (.int (1 : Int32)), .val (.int r15), .unset, .unset, .unset, .unset, .unset, .unset, .unset, .unset] [(.int r15), (.ref b6)])) _
    exact Steps.refl _)
  obtain ⟨v18_0, hv18_0, S18⟩ : ∃ (v18_0 : Int32), (if r15 = (0 : Int32) then b0 else b1) = v18_0 ∧ Steps p.tables e below (T14.setTop (mkF m 55 #[.val (.int p0), .val (.int p1), .val (.int p2), .val (.int a), .val (.int b0), .val (.int b1), .val (.int tot), .val (.ref b6), .val (.int (1 : Int32)), .val (.int r15), .unset, .unset, .unset, .unset, .unset, .unset, .unset, .unset] [(.int r15), (.ref b6)])) (T14.setTop (mkF m 65 #[.val (.int p0), .val (.int p1), .val (.int p2), .val (.int a), .val (.int b0), .val (.int b1), .val (.int tot), .val (.ref b6), .val (.int (1 : Int32)), .val (.int r15), .unset, .unset, .unset, .unset, .unset, .unset, .unset, .unset] [(.int v18_0), (.ref b6)])) := by
    have R18 := Steps.refl (tb := p.tables) (e := e) (below := below) (T14.setTop (mkF m 55 #[.val (.int p0), .val (.int p1), .val (.int p2), .val (.int a), .val (.int b0), .val (.int b1), .val (.int tot), .val (.ref b6), .val (.int (1 : Int32)), .val (.int r15), .unset, .unset, .unset, .unset, .unset, .unset, .unset, .unset] [(.int r15), (.ref b6)]))
    by_cases hc55 : r15 = (0 : Int32)
    · have K19 : Steps p.tables e below _ (T14.setTop (mkF m 65 #[.val (.int p0), .val (.int p1), .val (.int p2), .val (.int a), .val (.int b0), .val (.int b1), .val (.int tot), .val (.ref b6), .val (.int (1 : Int32)), .val (.int r15), .unset, .unset, .unset, .unset, .unset, .unset, .unset, .unset] [(.int b0), (.ref b6)])) := R18.trans (by
        show Steps p.tables e below (T14.setTop (mkF m 55 #[.val (.int p0), .val (.int p1), .val (.int p2), .val (.int a), .val (.int b0), .val (.int b1), .val (.int tot), .val (.ref b6), .val (.int (1 : Int32)), .val (.int r15), .unset, .unset, .unset, .unset, .unset, .unset, .unset, .unset] [(.int r15), (.ref b6)])) _
        refine XS.ifNo X14.here hx rfl (hb hby at_55) rfl ((if0 _ _).trans (teq hc55).2) ?_
        show Steps p.tables e below (T14.setTop (mkF m 58 #[.val (.int p0), .val (.int p1), .val (.int p2), .val (.int a), .val (.int b0), .val (.int b1), .val (.int tot), .val (.ref b6), .val (.int (1 : Int32)), .val (.int r15), .unset, .unset, .unset, .unset, .unset, .unset, .unset, .unset] [(.ref b6)])) _
        refine XS.iload X14.here hx rfl (hb hby at_58) rfl ?_
        show Steps p.tables e below (T14.setTop (mkF m 60 #[.val (.int p0), .val (.int p1), .val (.int p2), .val (.int a), .val (.int b0), .val (.int b1), .val (.int tot), .val (.ref b6), .val (.int (1 : Int32)), .val (.int r15), .unset, .unset, .unset, .unset, .unset, .unset, .unset, .unset] [(.int b0), (.ref b6)])) _
        refine XS.goto X14.here hx rfl (pc0 := 60) (pc' := 65) rfl (hb hby at_60) (by decide) (by decide) ?_
        show Steps p.tables e below (T14.setTop (mkF m 65 #[.val (.int p0), .val (.int p1), .val (.int p2), .val (.int a), .val (.int b0), .val (.int b1), .val (.int tot), .val (.ref b6), .val (.int (1 : Int32)), .val (.int r15), .unset, .unset, .unset, .unset, .unset, .unset, .unset, .unset] [(.int b0), (.ref b6)])) _
        exact Steps.refl _)
      exact ⟨b0, (by rw [if_pos hc55]), K19⟩
    · have K20 : Steps p.tables e below _ (T14.setTop (mkF m 65 #[.val (.int p0), .val (.int p1), .val (.int p2), .val (.int a), .val (.int b0), .val (.int b1), .val (.int tot), .val (.ref b6), .val (.int (1 : Int32)), .val (.int r15), .unset, .unset, .unset, .unset, .unset, .unset, .unset, .unset] [(.int b1), (.ref b6)])) := R18.trans (by
        show Steps p.tables e below (T14.setTop (mkF m 55 #[.val (.int p0), .val (.int p1), .val (.int p2), .val (.int a), .val (.int b0), .val (.int b1), .val (.int tot), .val (.ref b6), .val (.int (1 : Int32)), .val (.int r15), .unset, .unset, .unset, .unset, .unset, .unset, .unset, .unset] [(.int r15), (.ref b6)])) _
        refine XS.ifYes X14.here hx rfl (pc0 := 55) (pc' := 63) rfl (hb hby at_55) rfl ((if0 _ _).trans (feq hc55).2) (by decide) (by decide) ?_
        show Steps p.tables e below (T14.setTop (mkF m 63 #[.val (.int p0), .val (.int p1), .val (.int p2), .val (.int a), .val (.int b0), .val (.int b1), .val (.int tot), .val (.ref b6), .val (.int (1 : Int32)), .val (.int r15), .unset, .unset, .unset, .unset, .unset, .unset, .unset, .unset] [(.ref b6)])) _
        refine XS.iload X14.here hx rfl (hb hby at_63) rfl ?_
        show Steps p.tables e below (T14.setTop (mkF m 65 #[.val (.int p0), .val (.int p1), .val (.int p2), .val (.int a), .val (.int b0), .val (.int b1), .val (.int tot), .val (.ref b6), .val (.int (1 : Int32)), .val (.int r15), .unset, .unset, .unset, .unset, .unset, .unset, .unset, .unset] [(.int b1), (.ref b6)])) _
        exact Steps.refl _)
      exact ⟨b1, (by rw [if_neg hc55]), K20⟩
  have K21 := K17.trans S18
  have Z_22 : n0 ≤ T14.heap.size := (Nat.le_trans Z_13 Kp14.1)
  obtain ⟨cq23, kq23, q23a, q23b, q23c⟩ := isOf hZ rfl Q14_0
  obtain ⟨_, _, ⟨T23, L23, k23, n23⟩, -, X23, ⟨Lc23, hQ23, l23, y23, z23⟩, st23⟩ := X14.virtualBack hx (y := (⟨"com/example/futures_from_states/futuresfromstates/model/Choices", "choose", "(I)I"⟩ : MethodName)) (z := (⟨"com/example/futures_from_states/futuresfromstates/model/Choices", "choose", "(I)I"⟩ : MethodName)) hown (mvT hZ (hw _ (List.mem_of_getElem? (i := 14) rfl))) (mvT hZ (hw _ (List.mem_of_getElem? (i := 15) rfl))) (notFace_of_selects (args := #[]) (mvT hZ (hw _ (List.mem_of_getElem? (i := 17) rfl)))) (mvT hZ (hw _ (List.mem_of_getElem? (i := 17) rfl))) (mvT hZ (hw _ (List.mem_of_getElem? (i := 16) rfl))) (by decide) (backOf (W := 0) (rm3 l Z a0 hw [] b6 v18_0 b10_b5 b10_b12 k5_10 k12_10 c11 t11 m11 s11 T14.heap n0 Z_22 Q14_0 Q14_1 Q14_2 Q14_3 Q14_4 Q14_5 Q14_6 ne_b6_b10_b5 ne_b6_b10_b12 ne10_11 ge_b6 ge_b10_b5 ge_b10_b12 (hI11)) hZ (hw _ (List.mem_of_getElem? (i := 18) rfl)) (hw _ (List.mem_of_getElem? (i := 2) rfl)) (by decide) (by decide)) q23a q23c (g := (mkF m 65 #[.val (.int p0), .val (.int p1), .val (.int p2), .val (.int a), .val (.int b0), .val (.int b1), .val (.int tot), .val (.ref b6), .val (.int (1 : Int32)), .val (.int r15), .unset, .unset, .unset, .unset, .unset, .unset, .unset, .unset] [(.int v18_0), (.ref b6)])) rfl (by rw [hml]; rfl) K21 (argsL := [(.int v18_0)]) (rest := []) (lenOf pd_1 rfl) rfl (by show 2 * 0 + _ ≤ _; exact Nat.le_of_eq rfl) (hb hby at_65) (fun _ _ => ⟨rfl, rfl, (by decide : 3 + 0 ≤ _), (by decide : 36 + 0 ≤ _)⟩)
  dsimp only [Pt.U, Pt.locs, Pt.cells, Pt.slots] at X23 l23 y23 z23 st23 hQ23
  subst l23 y23 z23
  obtain ⟨rfl, N23, Kp23, Q23_0, Q23_1, Q23_2, Q23_3, Q23_4, Q23_5, Q23_6⟩ := hQ23
  have N23' := Fr.app N14' N23
  have K25 : Steps p.tables e below _ (T23.setTop (mkF m 68 #[.val (.int p0), .val (.int p1), .val (.int p2), .val (.int a), .val (.int b0), .val (.int b1), .val (.int tot), .val (.ref b6), .val (.int (1 : Int32)), .val (.int r15), .unset, .unset, .unset, .unset, .unset, .unset, .unset, .unset] [(.int (f_rm3 v18_0 c11 m11 s11))])) := st23
  obtain ⟨r24, hr24⟩ : ∃ z : Int32, (f_rm3 v18_0 c11 m11 s11) = z := ⟨_, rfl⟩
  rw [hr24] at K25
  obtain ⟨m12, hm12⟩ : ∃ z : Int32, (u_rm3_3 v18_0 m11) = z := ⟨_, rfl⟩
  rw [hm12] at Q23_3
  obtain ⟨s12, hs12⟩ : ∃ z : Int32, (u_rm3_4 v18_0 m11 s11) = z := ⟨_, rfl⟩
  rw [hs12] at Q23_4
  obtain ⟨c12, hc12⟩ : ∃ z : List Value, (u_rm3_5 v18_0 c11 m11 s11) = z := ⟨_, rfl⟩
  rw [hc12] at Q23_5
  obtain ⟨t12, ht12⟩ : ∃ z : List Value, (u_rm3_6 v18_0 t11 m11 s11) = z := ⟨_, rfl⟩
  rw [ht12] at Q23_6
  have hI12 := own_ivc hI11 hm12 hc12 ht12
  have K26 : Steps p.tables e below _ (T23.setTop (mkF m 86 #[.val (.int p0), .val (.int p1), .val (.int p2), .val (.int a), .val (.int b0), .val (.int b1), .val (.int tot), .val (.ref b6), .val (.int (1 : Int32)), .val (.int r15), .val (.int r24), .unset, .unset, .unset, .unset, .unset, .unset, .unset] [(.int tot), (.int b1), (.int b0), (.int r24), (.int r15), (.int (0 : Int32))])) := K25.trans (by
    show Steps p.tables e below (T23.setTop (mkF m 68 #[.val (.int p0), .val (.int p1), .val (.int p2), .val (.int a), .val (.int b0), .val (.int b1), .val (.int tot), .val (.ref b6), .val (.int (1 : Int32)), .val (.int r15), .unset, .unset, .unset, .unset, .unset, .unset, .unset, .unset] [(.int r24)])) _
    refine XS.istore X23.here hx rfl (hb hby at_68) rfl (l' := #[.val (.int p0), .val (.int p1), .val (.int p2), .val (.int a), .val (.int b0), .val (.int b1), .val (.int tot), .val (.ref b6), .val (.int (1 : Int32)), .val (.int r15), .val (.int r24), .unset, .unset, .unset, .unset, .unset, .unset, .unset]) rfl ?_
    show Steps p.tables e below (T23.setTop (mkF m 70 #[.val (.int p0), .val (.int p1), .val (.int p2), .val (.int a), .val (.int b0), .val (.int b1), .val (.int tot), .val (.ref b6), .val (.int (1 : Int32)), .val (.int r15), .val (.int r24), .unset, .unset, .unset, .unset, .unset, .unset, .unset] [])) _
    refine XS.iload X23.here hx rfl (hb hby at_70) rfl ?_
    show Steps p.tables e below (T23.setTop (mkF m 72 #[.val (.int p0), .val (.int p1), .val (.int p2), .val (.int a), .val (.int b0), .val (.int b1), .val (.int tot), .val (.ref b6), .val (.int (1 : Int32)), .val (.int r15), .val (.int r24), .unset, .unset, .unset, .unset, .unset, .unset, .unset] [(.int (1 : Int32))])) _
    refine XS.ifNo X23.here hx rfl (hb hby at_72) rfl ((if0 _ _).trans (feq (by decide : ¬ ((1 : Int32) = (0 : Int32)))).1) ?_
    show Steps p.tables e below (T23.setTop (mkF m 75 #[.val (.int p0), .val (.int p1), .val (.int p2), .val (.int a), .val (.int b0), .val (.int b1), .val (.int tot), .val (.ref b6), .val (.int (1 : Int32)), .val (.int r15), .val (.int r24), .unset, .unset, .unset, .unset, .unset, .unset, .unset] [])) _
    refine XS.iconst X23.here hx rfl (hb hby at_75) ?_
    show Steps p.tables e below (T23.setTop (mkF m 76 #[.val (.int p0), .val (.int p1), .val (.int p2), .val (.int a), .val (.int b0), .val (.int b1), .val (.int tot), .val (.ref b6), .val (.int (1 : Int32)), .val (.int r15), .val (.int r24), .unset, .unset, .unset, .unset, .unset, .unset, .unset] [(.int (0 : Int32))])) _
    refine XS.iload X23.here hx rfl (hb hby at_76) rfl ?_
    show Steps p.tables e below (T23.setTop (mkF m 78 #[.val (.int p0), .val (.int p1), .val (.int p2), .val (.int a), .val (.int b0), .val (.int b1), .val (.int tot), .val (.ref b6), .val (.int (1 : Int32)), .val (.int r15), .val (.int r24), .unset, .unset, .unset, .unset, .unset, .unset, .unset] [(.int r15), (.int (0 : Int32))])) _
    refine XS.iload X23.here hx rfl (hb hby at_78) rfl ?_
    show Steps p.tables e below (T23.setTop (mkF m 80 #[.val (.int p0), .val (.int p1), .val (.int p2), .val (.int a), .val (.int b0), .val (.int b1), .val (.int tot), .val (.ref b6), .val (.int (1 : Int32)), .val (.int r15), .val (.int r24), .unset, .unset, .unset, .unset, .unset, .unset, .unset] [(.int r24), (.int r15), (.int (0 : Int32))])) _
    refine XS.iload X23.here hx rfl (hb hby at_80) rfl ?_
    show Steps p.tables e below (T23.setTop (mkF m 82 #[.val (.int p0), .val (.int p1), .val (.int p2), .val (.int a), .val (.int b0), .val (.int b1), .val (.int tot), .val (.ref b6), .val (.int (1 : Int32)), .val (.int r15), .val (.int r24), .unset, .unset, .unset, .unset, .unset, .unset, .unset] [(.int b0), (.int r24), (.int r15), (.int (0 : Int32))])) _
    refine XS.iload X23.here hx rfl (hb hby at_82) rfl ?_
    show Steps p.tables e below (T23.setTop (mkF m 84 #[.val (.int p0), .val (.int p1), .val (.int p2), .val (.int a), .val (.int b0), .val (.int b1), .val (.int tot), .val (.ref b6), .val (.int (1 : Int32)), .val (.int r15), .val (.int r24), .unset, .unset, .unset, .unset, .unset, .unset, .unset] [(.int b1), (.int b0), (.int r24), (.int r15), (.int (0 : Int32))])) _
    refine XS.iload X23.here hx rfl (hb hby at_84) rfl ?_
    show Steps p.tables e below (T23.setTop (mkF m 86 #[.val (.int p0), .val (.int p1), .val (.int p2), .val (.int a), .val (.int b0), .val (.int b1), .val (.int tot), .val (.ref b6), .val (.int (1 : Int32)), .val (.int r15), .val (.int r24), .unset, .unset, .unset, .unset, .unset, .unset, .unset] [(.int tot), (.int b1), (.int b0), (.int r24), (.int r15), (.int (0 : Int32))])) _
    exact Steps.refl _)
  have Z_27 : n0 ≤ T23.heap.size := (Nat.le_trans Z_22 Kp23.1)
  obtain ⟨_, _, ⟨T28, L28, k28, n28⟩, -, X28, ⟨Lc28, hQ28, l28, y28, z28⟩, st28⟩ := Jvm.LawKit.callS X23 hx (y := (⟨"com/example/futures_from_states/futuresfromstates/model/ChoicesNextPinLaw", "fits", "(IIIIII)Z"⟩ : MethodName)) hown (mvT hZ (hw _ (List.mem_of_getElem? (i := 23) rfl))) (mvT hZ (hw _ (List.mem_of_getElem? (i := 24) rfl))) (mvT hZ (hw _ (List.mem_of_getElem? (i := 25) rfl))) (mvT hZ (hw _ (List.mem_of_getElem? (i := 26) rfl))) (by decide) (backOf (W := 0) (rm4 l Z a0 hw [] (0 : Int32) r15 r24 b0 b1 tot T23.heap n0 Z_27 (own_tot ha hb0 hb1 htot) (own_pos hb1)) hZ (hw _ (List.mem_of_getElem? (i := 26) rfl)) (hw _ (List.mem_of_getElem? (i := 25) rfl)) (by decide) (by decide)) (g := (mkF m 86 #[.val (.int p0), .val (.int p1), .val (.int p2), .val (.int a), .val (.int b0), .val (.int b1), .val (.int tot), .val (.ref b6), .val (.int (1 : Int32)), .val (.int r15), .val (.int r24), .unset, .unset, .unset, .unset, .unset, .unset, .unset] [(.int tot), (.int b1), (.int b0), (.int r24), (.int r15), (.int (0 : Int32))])) rfl (by rw [hml]; rfl) (argsL := [(.int (0 : Int32)), (.int r15), (.int r24), (.int b0), (.int b1), (.int tot)]) (rest := []) (lenOf pd_2 rfl) rfl (by show 2 * 0 + _ ≤ _; exact Nat.le_of_eq rfl) (hb hby at_86) (fun _ _ => ⟨rfl, rfl, (by decide : 3 + 0 ≤ _), (by decide : 36 + 0 ≤ _)⟩)
  dsimp only [Pt.U, Pt.locs, Pt.cells, Pt.slots] at X28 l28 y28 z28 st28 hQ28
  subst l28 y28 z28
  obtain ⟨rfl, N28, eh28⟩ := hQ28
  have N28' := Fr.app N23' N28
  have K30 : Steps p.tables e below _ (T28.setTop (mkF m 89 #[.val (.int p0), .val (.int p1), .val (.int p2), .val (.int a), .val (.int b0), .val (.int b1), .val (.int tot), .val (.ref b6), .val (.int (1 : Int32)), .val (.int r15), .val (.int r24), .unset, .unset, .unset, .unset, .unset, .unset, .unset] [(.int ((if r15 = (if ((0 : Int32) % tot) < b0 then (0 : Int32) else ((1 : Int32) + ((((0 : Int32) % tot) - b0) / b1))) then (if r24 = (if ((0 : Int32) % tot) < b0 then ((0 : Int32) % tot) else ((((0 : Int32) % tot) - b0) % b1)) then (1 : Int32) else (0 : Int32)) else (0 : Int32)) &&& 1))])) := K26.trans (st28 _ (Steps.refl _))
  obtain ⟨r29, hr29⟩ : ∃ z : Int32, ((if r15 = (if ((0 : Int32) % tot) < b0 then (0 : Int32) else ((1 : Int32) + ((((0 : Int32) % tot) - b0) / b1))) then (if r24 = (if ((0 : Int32) % tot) < b0 then ((0 : Int32) % tot) else ((((0 : Int32) % tot) - b0) % b1)) then (1 : Int32) else (0 : Int32)) else (0 : Int32)) &&& 1) = z := ⟨_, rfl⟩
  rw [hr29] at K30
  obtain ⟨v31_0, hv31_0, S31⟩ : ∃ (v31_0 : Int32), (if r29 = (0 : Int32) then (0 : Int32) else (1 : Int32)) = v31_0 ∧ Steps p.tables e below (T28.setTop (mkF m 89 #[.val (.int p0), .val (.int p1), .val (.int p2), .val (.int a), .val (.int b0), .val (.int b1), .val (.int tot), .val (.ref b6), .val (.int (1 : Int32)), .val (.int r15), .val (.int r24), .unset, .unset, .unset, .unset, .unset, .unset, .unset] [(.int r29)])) (T28.setTop (mkF m 97 #[.val (.int p0), .val (.int p1), .val (.int p2), .val (.int a), .val (.int b0), .val (.int b1), .val (.int tot), .val (.ref b6), .val (.int (1 : Int32)), .val (.int r15), .val (.int r24), .unset, .unset, .unset, .unset, .unset, .unset, .unset] [(.int v31_0)])) := by
    have R31 := Steps.refl (tb := p.tables) (e := e) (below := below) (T28.setTop (mkF m 89 #[.val (.int p0), .val (.int p1), .val (.int p2), .val (.int a), .val (.int b0), .val (.int b1), .val (.int tot), .val (.ref b6), .val (.int (1 : Int32)), .val (.int r15), .val (.int r24), .unset, .unset, .unset, .unset, .unset, .unset, .unset] [(.int r29)]))
    by_cases hc89 : r29 = (0 : Int32)
    · have K32 : Steps p.tables e below _ (T28.setTop (mkF m 97 #[.val (.int p0), .val (.int p1), .val (.int p2), .val (.int a), .val (.int b0), .val (.int b1), .val (.int tot), .val (.ref b6), .val (.int (1 : Int32)), .val (.int r15), .val (.int r24), .unset, .unset, .unset, .unset, .unset, .unset, .unset] [(.int (0 : Int32))])) := R31.trans (by
        show Steps p.tables e below (T28.setTop (mkF m 89 #[.val (.int p0), .val (.int p1), .val (.int p2), .val (.int a), .val (.int b0), .val (.int b1), .val (.int tot), .val (.ref b6), .val (.int (1 : Int32)), .val (.int r15), .val (.int r24), .unset, .unset, .unset, .unset, .unset, .unset, .unset] [(.int r29)])) _
        refine XS.ifYes X28.here hx rfl (pc0 := 89) (pc' := 96) rfl (hb hby at_89) rfl ((if0 _ _).trans (teq hc89).1) (by decide) (by decide) ?_
        show Steps p.tables e below (T28.setTop (mkF m 96 #[.val (.int p0), .val (.int p1), .val (.int p2), .val (.int a), .val (.int b0), .val (.int b1), .val (.int tot), .val (.ref b6), .val (.int (1 : Int32)), .val (.int r15), .val (.int r24), .unset, .unset, .unset, .unset, .unset, .unset, .unset] [])) _
        refine XS.iconst X28.here hx rfl (hb hby at_96) ?_
        show Steps p.tables e below (T28.setTop (mkF m 97 #[.val (.int p0), .val (.int p1), .val (.int p2), .val (.int a), .val (.int b0), .val (.int b1), .val (.int tot), .val (.ref b6), .val (.int (1 : Int32)), .val (.int r15), .val (.int r24), .unset, .unset, .unset, .unset, .unset, .unset, .unset] [(.int (0 : Int32))])) _
        exact Steps.refl _)
      exact ⟨(0 : Int32), (by rw [if_pos hc89]), K32⟩
    · have K33 : Steps p.tables e below _ (T28.setTop (mkF m 97 #[.val (.int p0), .val (.int p1), .val (.int p2), .val (.int a), .val (.int b0), .val (.int b1), .val (.int tot), .val (.ref b6), .val (.int (1 : Int32)), .val (.int r15), .val (.int r24), .unset, .unset, .unset, .unset, .unset, .unset, .unset] [(.int (1 : Int32))])) := R31.trans (by
        show Steps p.tables e below (T28.setTop (mkF m 89 #[.val (.int p0), .val (.int p1), .val (.int p2), .val (.int a), .val (.int b0), .val (.int b1), .val (.int tot), .val (.ref b6), .val (.int (1 : Int32)), .val (.int r15), .val (.int r24), .unset, .unset, .unset, .unset, .unset, .unset, .unset] [(.int r29)])) _
        refine XS.ifNo X28.here hx rfl (hb hby at_89) rfl ((if0 _ _).trans (feq hc89).1) ?_
        show Steps p.tables e below (T28.setTop (mkF m 92 #[.val (.int p0), .val (.int p1), .val (.int p2), .val (.int a), .val (.int b0), .val (.int b1), .val (.int tot), .val (.ref b6), .val (.int (1 : Int32)), .val (.int r15), .val (.int r24), .unset, .unset, .unset, .unset, .unset, .unset, .unset] [])) _
        refine XS.iconst X28.here hx rfl (hb hby at_92) ?_
        show Steps p.tables e below (T28.setTop (mkF m 93 #[.val (.int p0), .val (.int p1), .val (.int p2), .val (.int a), .val (.int b0), .val (.int b1), .val (.int tot), .val (.ref b6), .val (.int (1 : Int32)), .val (.int r15), .val (.int r24), .unset, .unset, .unset, .unset, .unset, .unset, .unset] [(.int (1 : Int32))])) _
        refine XS.goto X28.here hx rfl (pc0 := 93) (pc' := 97) rfl (hb hby at_93) (by decide) (by decide) ?_
        show Steps p.tables e below (T28.setTop (mkF m 97 #[.val (.int p0), .val (.int p1), .val (.int p2), .val (.int a), .val (.int b0), .val (.int b1), .val (.int tot), .val (.ref b6), .val (.int (1 : Int32)), .val (.int r15), .val (.int r24), .unset, .unset, .unset, .unset, .unset, .unset, .unset] [(.int (1 : Int32))])) _
        exact Steps.refl _)
      exact ⟨(1 : Int32), (by rw [if_neg hc89]), K33⟩
  have K34 := K30.trans S31
  have K35 : Steps p.tables e below _ (T28.setTop (mkF m 101 #[.val (.int p0), .val (.int p1), .val (.int p2), .val (.int a), .val (.int b0), .val (.int b1), .val (.int tot), .val (.ref b6), .val (.int v31_0), .val (.int r15), .val (.int r24), .unset, .unset, .unset, .unset, .unset, .unset, .unset] [(.ref b6)])) := K34.trans (by
    show Steps p.tables e below (T28.setTop (mkF m 97 #[.val (.int p0), .val (.int p1), .val (.int p2), .val (.int a), .val (.int b0), .val (.int b1), .val (.int tot), .val (.ref b6), .val (.int (1 : Int32)), .val (.int r15), .val (.int r24), .unset, .unset, .unset, .unset, .unset, .unset, .unset] [(.int v31_0)])) _
    refine XS.istore X28.here hx rfl (hb hby at_97) rfl (l' := #[.val (.int p0), .val (.int p1), .val (.int p2), .val (.int a), .val (.int b0), .val (.int b1), .val (.int tot), .val (.ref b6), .val (.int v31_0), .val (.int r15), .val (.int r24), .unset, .unset, .unset, .unset, .unset, .unset, .unset]) rfl ?_
    show Steps p.tables e below (T28.setTop (mkF m 99 #[.val (.int p0), .val (.int p1), .val (.int p2), .val (.int a), .val (.int b0), .val (.int b1), .val (.int tot), .val (.ref b6), .val (.int v31_0), .val (.int r15), .val (.int r24), .unset, .unset, .unset, .unset, .unset, .unset, .unset] [])) _
    refine XS.aload X28.here hx rfl (hb hby at_99) rfl rfl ?_
    show Steps p.tables e below (T28.setTop (mkF m 101 #[.val (.int p0), .val (.int p1), .val (.int p2), .val (.int a), .val (.int b0), .val (.int b1), .val (.int tot), .val (.ref b6), .val (.int v31_0), .val (.int r15), .val (.int r24), .unset, .unset, .unset, .unset, .unset, .unset, .unset] [(.ref b6)])) _
    exact Steps.refl _)
  obtain ⟨cq36, kq36, q36a, q36b, q36c⟩ := isOf hZ eh28 Q23_0
  obtain ⟨_, _, ⟨T36, L36, k36, n36⟩, -, X36, ⟨Lc36, hQ36, l36, y36, z36⟩, st36⟩ := X28.virtualBack hx (y := (⟨"com/example/futures_from_states/futuresfromstates/model/Choices", "next", "()Z"⟩ : MethodName)) (z := (⟨"com/example/futures_from_states/futuresfromstates/model/Choices", "next", "()Z"⟩ : MethodName)) hown (mvT hZ (hw _ (List.mem_of_getElem? (i := 27) rfl))) (mvT hZ (hw _ (List.mem_of_getElem? (i := 28) rfl))) (notFace_of_selects (args := #[]) (mvT hZ (hw _ (List.mem_of_getElem? (i := 30) rfl)))) (mvT hZ (hw _ (List.mem_of_getElem? (i := 30) rfl))) (mvT hZ (hw _ (List.mem_of_getElem? (i := 29) rfl))) (by decide) (backOf (W := 0) (rm5 l Z a0 hw [] b6 b10_b5 b10_b12 k5_10 k12_10 c12 t12 m12 s12 T23.heap n0 Z_27 Q23_0 Q23_1 Q23_2 Q23_3 Q23_4 Q23_5 Q23_6 ne_b6_b10_b5 ne_b6_b10_b12 ne10_11 ge_b6 ge_b10_b5 (hI12)) hZ (hw _ (List.mem_of_getElem? (i := 31) rfl)) (hw _ (List.mem_of_getElem? (i := 2) rfl)) (by decide) (by decide)) q36a q36c (g := (mkF m 101 #[.val (.int p0), .val (.int p1), .val (.int p2), .val (.int a), .val (.int b0), .val (.int b1), .val (.int tot), .val (.ref b6), .val (.int v31_0), .val (.int r15), .val (.int r24), .unset, .unset, .unset, .unset, .unset, .unset, .unset] [(.ref b6)])) rfl (by rw [hml]; rfl) K35 (argsL := []) (rest := []) (lenOf pd_3 rfl) rfl (by show 2 * 0 + _ ≤ _; exact Nat.le_of_eq rfl) (hb hby at_101) (fun _ _ => ⟨rfl, eh28, (by decide : 3 + 0 ≤ _), (by decide : 36 + 0 ≤ _)⟩)
  dsimp only [Pt.U, Pt.locs, Pt.cells, Pt.slots] at X36 l36 y36 z36 st36 hQ36
  subst l36 y36 z36
  obtain ⟨rfl, N36, Kp36, Q36_0, Q36_1, Q36_2, Q36_3, Q36_4, Q36_5⟩ := hQ36
  have N36' := Fr.app N28' N36
  have K38 : Steps p.tables e below _ (T36.setTop (mkF m 104 #[.val (.int p0), .val (.int p1), .val (.int p2), .val (.int a), .val (.int b0), .val (.int b1), .val (.int tot), .val (.ref b6), .val (.int v31_0), .val (.int r15), .val (.int r24), .unset, .unset, .unset, .unset, .unset, .unset, .unset] [(.int (f_rm5 c12 t12 m12))])) := st36
  obtain ⟨r37, hr37⟩ : ∃ z : Int32, (f_rm5 c12 t12 m12) = z := ⟨_, rfl⟩
  rw [hr37] at K38
  obtain ⟨s13, hs13⟩ : ∃ z : Int32, (u_rm5_4 c12 t12 m12) = z := ⟨_, rfl⟩
  rw [hs13] at Q36_4
  obtain ⟨c13, hc13⟩ : ∃ z : List Value, (u_rm5_5 c12 t12 m12) = z := ⟨_, rfl⟩
  rw [hc13] at Q36_5
  have hI13 := own_ivn hI12 hc13
  have K39 : Steps p.tables e below _ (T36.setTop (mkF m 108 #[.val (.int p0), .val (.int p1), .val (.int p2), .val (.int a), .val (.int b0), .val (.int b1), .val (.int tot), .val (.ref b6), .val (.int v31_0), .val (.int r15), .val (.int r24), .val (.int r37), .unset, .unset, .unset, .unset, .unset, .unset] [(.int v31_0)])) := K38.trans (by
    show Steps p.tables e below (T36.setTop (mkF m 104 #[.val (.int p0), .val (.int p1), .val (.int p2), .val (.int a), .val (.int b0), .val (.int b1), .val (.int tot), .val (.ref b6), .val (.int v31_0), .val (.int r15), .val (.int r24), .unset, .unset, .unset, .unset, .unset, .unset, .unset] [(.int r37)])) _
    refine XS.istore X36.here hx rfl (hb hby at_104) rfl (l' := #[.val (.int p0), .val (.int p1), .val (.int p2), .val (.int a), .val (.int b0), .val (.int b1), .val (.int tot), .val (.ref b6), .val (.int v31_0), .val (.int r15), .val (.int r24), .val (.int r37), .unset, .unset, .unset, .unset, .unset, .unset]) rfl ?_
    show Steps p.tables e below (T36.setTop (mkF m 106 #[.val (.int p0), .val (.int p1), .val (.int p2), .val (.int a), .val (.int b0), .val (.int b1), .val (.int tot), .val (.ref b6), .val (.int v31_0), .val (.int r15), .val (.int r24), .val (.int r37), .unset, .unset, .unset, .unset, .unset, .unset] [])) _
    refine XS.iload X36.here hx rfl (hb hby at_106) rfl ?_
    show Steps p.tables e below (T36.setTop (mkF m 108 #[.val (.int p0), .val (.int p1), .val (.int p2), .val (.int a), .val (.int b0), .val (.int b1), .val (.int tot), .val (.ref b6), .val (.int v31_0), .val (.int r15), .val (.int r24), .val (.int r37), .unset, .unset, .unset, .unset, .unset, .unset] [(.int v31_0)])) _
    exact Steps.refl _)
  obtain ⟨T40, L40, v40_0, X40, e40, N40, hv40_0, S40⟩ : ∃ (T40 : State) (L40 : List Loc) (v40_0 : Int32), Stand p l e room_1 s m #[(.int p0), (.int p1), (.int p2)] below meth c T40 L40 3 36 ∧ T40.heap = T36.heap ∧ Fr n0 L40 ∧ (if v31_0 = (0 : Int32) then (0 : Int32) else (if r37 = ((if ((0 : Int32) % tot) = (tot - (1 : Int32)) then (0 : Int32) else (1 : Int32)) &&& 1) then (1 : Int32) else (0 : Int32))) = v40_0 ∧ Steps p.tables e below (T36.setTop (mkF m 108 #[.val (.int p0), .val (.int p1), .val (.int p2), .val (.int a), .val (.int b0), .val (.int b1), .val (.int tot), .val (.ref b6), .val (.int v31_0), .val (.int r15), .val (.int r24), .val (.int r37), .unset, .unset, .unset, .unset, .unset, .unset] [(.int v31_0)])) (T40.setTop (mkF m 127 #[.val (.int p0), .val (.int p1), .val (.int p2), .val (.int a), .val (.int b0), .val (.int b1), .val (.int tot), .val (.ref b6), .val (.int v31_0), .val (.int r15), .val (.int r24), .val (.int r37), .unset, .unset, .unset, .unset, .unset, .unset] [(.int v40_0)])) := by
    have R40 := Steps.refl (tb := p.tables) (e := e) (below := below) (T36.setTop (mkF m 108 #[.val (.int p0), .val (.int p1), .val (.int p2), .val (.int a), .val (.int b0), .val (.int b1), .val (.int tot), .val (.ref b6), .val (.int v31_0), .val (.int r15), .val (.int r24), .val (.int r37), .unset, .unset, .unset, .unset, .unset, .unset] [(.int v31_0)]))
    by_cases hc108 : v31_0 = (0 : Int32)
    · have K41 : Steps p.tables e below _ (T36.setTop (mkF m 127 #[.val (.int p0), .val (.int p1), .val (.int p2), .val (.int a), .val (.int b0), .val (.int b1), .val (.int tot), .val (.ref b6), .val (.int v31_0), .val (.int r15), .val (.int r24), .val (.int r37), .unset, .unset, .unset, .unset, .unset, .unset] [(.int (0 : Int32))])) := R40.trans (by
        show Steps p.tables e below (T36.setTop (mkF m 108 #[.val (.int p0), .val (.int p1), .val (.int p2), .val (.int a), .val (.int b0), .val (.int b1), .val (.int tot), .val (.ref b6), .val (.int v31_0), .val (.int r15), .val (.int r24), .val (.int r37), .unset, .unset, .unset, .unset, .unset, .unset] [(.int v31_0)])) _
        refine XS.ifYes X36.here hx rfl (pc0 := 108) (pc' := 126) rfl (hb hby at_108) rfl ((if0 _ _).trans (teq hc108).1) (by decide) (by decide) ?_
        show Steps p.tables e below (T36.setTop (mkF m 126 #[.val (.int p0), .val (.int p1), .val (.int p2), .val (.int a), .val (.int b0), .val (.int b1), .val (.int tot), .val (.ref b6), .val (.int v31_0), .val (.int r15), .val (.int r24), .val (.int r37), .unset, .unset, .unset, .unset, .unset, .unset] [])) _
        refine XS.iconst X36.here hx rfl (hb hby at_126) ?_
        show Steps p.tables e below (T36.setTop (mkF m 127 #[.val (.int p0), .val (.int p1), .val (.int p2), .val (.int a), .val (.int b0), .val (.int b1), .val (.int tot), .val (.ref b6), .val (.int v31_0), .val (.int r15), .val (.int r24), .val (.int r37), .unset, .unset, .unset, .unset, .unset, .unset] [(.int (0 : Int32))])) _
        exact Steps.refl _)
      exact ⟨T36, _, (0 : Int32), X36, rfl, N36', (by rw [if_pos hc108]), K41⟩
    · have K42 : Steps p.tables e below _ (T36.setTop (mkF m 116 #[.val (.int p0), .val (.int p1), .val (.int p2), .val (.int a), .val (.int b0), .val (.int b1), .val (.int tot), .val (.ref b6), .val (.int v31_0), .val (.int r15), .val (.int r24), .val (.int r37), .unset, .unset, .unset, .unset, .unset, .unset] [(.int tot), (.int (0 : Int32)), (.int r37)])) := R40.trans (by
        show Steps p.tables e below (T36.setTop (mkF m 108 #[.val (.int p0), .val (.int p1), .val (.int p2), .val (.int a), .val (.int b0), .val (.int b1), .val (.int tot), .val (.ref b6), .val (.int v31_0), .val (.int r15), .val (.int r24), .val (.int r37), .unset, .unset, .unset, .unset, .unset, .unset] [(.int v31_0)])) _
        refine XS.ifNo X36.here hx rfl (hb hby at_108) rfl ((if0 _ _).trans (feq hc108).1) ?_
        show Steps p.tables e below (T36.setTop (mkF m 111 #[.val (.int p0), .val (.int p1), .val (.int p2), .val (.int a), .val (.int b0), .val (.int b1), .val (.int tot), .val (.ref b6), .val (.int v31_0), .val (.int r15), .val (.int r24), .val (.int r37), .unset, .unset, .unset, .unset, .unset, .unset] [])) _
        refine XS.iload X36.here hx rfl (hb hby at_111) rfl ?_
        show Steps p.tables e below (T36.setTop (mkF m 113 #[.val (.int p0), .val (.int p1), .val (.int p2), .val (.int a), .val (.int b0), .val (.int b1), .val (.int tot), .val (.ref b6), .val (.int v31_0), .val (.int r15), .val (.int r24), .val (.int r37), .unset, .unset, .unset, .unset, .unset, .unset] [(.int r37)])) _
        refine XS.iconst X36.here hx rfl (hb hby at_113) ?_
        show Steps p.tables e below (T36.setTop (mkF m 114 #[.val (.int p0), .val (.int p1), .val (.int p2), .val (.int a), .val (.int b0), .val (.int b1), .val (.int tot), .val (.ref b6), .val (.int v31_0), .val (.int r15), .val (.int r24), .val (.int r37), .unset, .unset, .unset, .unset, .unset, .unset] [(.int (0 : Int32)), (.int r37)])) _
        refine XS.iload X36.here hx rfl (hb hby at_114) rfl ?_
        show Steps p.tables e below (T36.setTop (mkF m 116 #[.val (.int p0), .val (.int p1), .val (.int p2), .val (.int a), .val (.int b0), .val (.int b1), .val (.int tot), .val (.ref b6), .val (.int v31_0), .val (.int r15), .val (.int r24), .val (.int r37), .unset, .unset, .unset, .unset, .unset, .unset] [(.int tot), (.int (0 : Int32)), (.int r37)])) _
        exact Steps.refl _)
      have Z_43 : n0 ≤ T36.heap.size := (Nat.le_trans Z_27 Kp36.1)
      obtain ⟨_, _, ⟨T44, L44, k44, n44⟩, -, X44, ⟨Lc44, hQ44, l44, y44, z44⟩, st44⟩ := Jvm.LawKit.callS X36 hx (y := (⟨"com/example/futures_from_states/futuresfromstates/model/ChoicesNextPinLaw", "notLast", "(II)Z"⟩ : MethodName)) hown (mvT hZ (hw _ (List.mem_of_getElem? (i := 32) rfl))) (mvT hZ (hw _ (List.mem_of_getElem? (i := 33) rfl))) (mvT hZ (hw _ (List.mem_of_getElem? (i := 25) rfl))) (mvT hZ (hw _ (List.mem_of_getElem? (i := 34) rfl))) (by decide) (backOf (W := 1) (rm6 l Z a0 hw [] (0 : Int32) tot T36.heap n0 Z_43 (own_tot ha hb0 hb1 htot)) hZ (hw _ (List.mem_of_getElem? (i := 34) rfl)) (hw _ (List.mem_of_getElem? (i := 25) rfl)) (by decide) (by decide)) (g := (mkF m 116 #[.val (.int p0), .val (.int p1), .val (.int p2), .val (.int a), .val (.int b0), .val (.int b1), .val (.int tot), .val (.ref b6), .val (.int v31_0), .val (.int r15), .val (.int r24), .val (.int r37), .unset, .unset, .unset, .unset, .unset, .unset] [(.int tot), (.int (0 : Int32)), (.int r37)])) rfl (by rw [hml]; rfl) (argsL := [(.int (0 : Int32)), (.int tot)]) (rest := [(.int r37)]) (lenOf pd_4 rfl) rfl (by show 2 * 0 + _ ≤ _; exact Nat.le_of_eq rfl) (hb hby at_116) (fun _ _ => ⟨rfl, rfl, (by decide : 3 + 0 ≤ _), (by decide : 36 + 0 ≤ _)⟩)
      dsimp only [Pt.U, Pt.locs, Pt.cells, Pt.slots] at X44 l44 y44 z44 st44 hQ44
      subst l44 y44 z44
      obtain ⟨rfl, N44, eh44⟩ := hQ44
      have N44' := Fr.app N36' N44
      have K46 : Steps p.tables e below _ (T44.setTop (mkF m 119 #[.val (.int p0), .val (.int p1), .val (.int p2), .val (.int a), .val (.int b0), .val (.int b1), .val (.int tot), .val (.ref b6), .val (.int v31_0), .val (.int r15), .val (.int r24), .val (.int r37), .unset, .unset, .unset, .unset, .unset, .unset] [(.int ((if ((0 : Int32) % tot) = (tot - (1 : Int32)) then (0 : Int32) else (1 : Int32)) &&& 1)), (.int r37)])) := K42.trans (st44 _ (Steps.refl _))
      obtain ⟨r45, hr45⟩ : ∃ z : Int32, ((if ((0 : Int32) % tot) = (tot - (1 : Int32)) then (0 : Int32) else (1 : Int32)) &&& 1) = z := ⟨_, rfl⟩
      rw [hr45] at K46
      by_cases hc119 : r37 = r45
      · have K47 : Steps p.tables e below _ (T44.setTop (mkF m 127 #[.val (.int p0), .val (.int p1), .val (.int p2), .val (.int a), .val (.int b0), .val (.int b1), .val (.int tot), .val (.ref b6), .val (.int v31_0), .val (.int r15), .val (.int r24), .val (.int r37), .unset, .unset, .unset, .unset, .unset, .unset] [(.int (1 : Int32))])) := K46.trans (by
          show Steps p.tables e below (T44.setTop (mkF m 119 #[.val (.int p0), .val (.int p1), .val (.int p2), .val (.int a), .val (.int b0), .val (.int b1), .val (.int tot), .val (.ref b6), .val (.int v31_0), .val (.int r15), .val (.int r24), .val (.int r37), .unset, .unset, .unset, .unset, .unset, .unset] [(.int r45), (.int r37)])) _
          refine XS.icmpNo X44.here hx rfl (hb hby at_119) rfl (teq hc119).2 ?_
          show Steps p.tables e below (T44.setTop (mkF m 122 #[.val (.int p0), .val (.int p1), .val (.int p2), .val (.int a), .val (.int b0), .val (.int b1), .val (.int tot), .val (.ref b6), .val (.int v31_0), .val (.int r15), .val (.int r24), .val (.int r37), .unset, .unset, .unset, .unset, .unset, .unset] [])) _
          refine XS.iconst X44.here hx rfl (hb hby at_122) ?_
          show Steps p.tables e below (T44.setTop (mkF m 123 #[.val (.int p0), .val (.int p1), .val (.int p2), .val (.int a), .val (.int b0), .val (.int b1), .val (.int tot), .val (.ref b6), .val (.int v31_0), .val (.int r15), .val (.int r24), .val (.int r37), .unset, .unset, .unset, .unset, .unset, .unset] [(.int (1 : Int32))])) _
          refine XS.goto X44.here hx rfl (pc0 := 123) (pc' := 127) rfl (hb hby at_123) (by decide) (by decide) ?_
          show Steps p.tables e below (T44.setTop (mkF m 127 #[.val (.int p0), .val (.int p1), .val (.int p2), .val (.int a), .val (.int b0), .val (.int b1), .val (.int tot), .val (.ref b6), .val (.int v31_0), .val (.int r15), .val (.int r24), .val (.int r37), .unset, .unset, .unset, .unset, .unset, .unset] [(.int (1 : Int32))])) _
          exact Steps.refl _)
        subst hr45
        exact ⟨T44, _, (1 : Int32), X44, eh44, N44', (by rw [if_neg hc108, if_pos hc119]), K47⟩
      · have K48 : Steps p.tables e below _ (T44.setTop (mkF m 127 #[.val (.int p0), .val (.int p1), .val (.int p2), .val (.int a), .val (.int b0), .val (.int b1), .val (.int tot), .val (.ref b6), .val (.int v31_0), .val (.int r15), .val (.int r24), .val (.int r37), .unset, .unset, .unset, .unset, .unset, .unset] [(.int (0 : Int32))])) := K46.trans (by
          show Steps p.tables e below (T44.setTop (mkF m 119 #[.val (.int p0), .val (.int p1), .val (.int p2), .val (.int a), .val (.int b0), .val (.int b1), .val (.int tot), .val (.ref b6), .val (.int v31_0), .val (.int r15), .val (.int r24), .val (.int r37), .unset, .unset, .unset, .unset, .unset, .unset] [(.int r45), (.int r37)])) _
          refine XS.icmpYes X44.here hx rfl (pc0 := 119) (pc' := 126) rfl (hb hby at_119) rfl (feq hc119).2 (by decide) (by decide) ?_
          show Steps p.tables e below (T44.setTop (mkF m 126 #[.val (.int p0), .val (.int p1), .val (.int p2), .val (.int a), .val (.int b0), .val (.int b1), .val (.int tot), .val (.ref b6), .val (.int v31_0), .val (.int r15), .val (.int r24), .val (.int r37), .unset, .unset, .unset, .unset, .unset, .unset] [])) _
          refine XS.iconst X44.here hx rfl (hb hby at_126) ?_
          show Steps p.tables e below (T44.setTop (mkF m 127 #[.val (.int p0), .val (.int p1), .val (.int p2), .val (.int a), .val (.int b0), .val (.int b1), .val (.int tot), .val (.ref b6), .val (.int v31_0), .val (.int r15), .val (.int r24), .val (.int r37), .unset, .unset, .unset, .unset, .unset, .unset] [(.int (0 : Int32))])) _
          exact Steps.refl _)
        subst hr45
        exact ⟨T44, _, (0 : Int32), X44, eh44, N44', (by rw [if_neg hc108, if_neg hc119]), K48⟩
  have K49 := K39.trans S40
  have K50 : Steps p.tables e below _ (T40.setTop (mkF m 132 #[.val (.int p0), .val (.int p1), .val (.int p2), .val (.int a), .val (.int b0), .val (.int b1), .val (.int tot), .val (.ref b6), .val (.int v40_0), .val (.int r15), .val (.int r24), .val (.int r37), .unset, .unset, .unset, .unset, .unset, .unset] [(.int a), (.ref b6)])) := K49.trans (by
    show Steps p.tables e below (T40.setTop (mkF m 127 #[.val (.int p0), .val (.int p1), .val (.int p2), .val (.int a), .val (.int b0), .val (.int b1), .val (.int tot), .val (.ref b6), .val (.int v31_0), .val (.int r15), .val (.int r24), .val (.int r37), .unset, .unset, .unset, .unset, .unset, .unset] [(.int v40_0)])) _
    refine XS.istore X40.here hx rfl (hb hby at_127) rfl (l' := #[.val (.int p0), .val (.int p1), .val (.int p2), .val (.int a), .val (.int b0), .val (.int b1), .val (.int tot), .val (.ref b6), .val (.int v40_0), .val (.int r15), .val (.int r24), .val (.int r37), .unset, .unset, .unset, .unset, .unset, .unset]) rfl ?_
    show Steps p.tables e below (T40.setTop (mkF m 129 #[.val (.int p0), .val (.int p1), .val (.int p2), .val (.int a), .val (.int b0), .val (.int b1), .val (.int tot), .val (.ref b6), .val (.int v40_0), .val (.int r15), .val (.int r24), .val (.int r37), .unset, .unset, .unset, .unset, .unset, .unset] [])) _
    refine XS.aload X40.here hx rfl (hb hby at_129) rfl rfl ?_
    show Steps p.tables e below (T40.setTop (mkF m 131 #[.val (.int p0), .val (.int p1), .val (.int p2), .val (.int a), .val (.int b0), .val (.int b1), .val (.int tot), .val (.ref b6), .val (.int v40_0), .val (.int r15), .val (.int r24), .val (.int r37), .unset, .unset, .unset, .unset, .unset, .unset] [(.ref b6)])) _
    refine XS.iloadN X40.here hx rfl (hb hby at_131) rfl ?_
    show Steps p.tables e below (T40.setTop (mkF m 132 #[.val (.int p0), .val (.int p1), .val (.int p2), .val (.int a), .val (.int b0), .val (.int b1), .val (.int tot), .val (.ref b6), .val (.int v40_0), .val (.int r15), .val (.int r24), .val (.int r37), .unset, .unset, .unset, .unset, .unset, .unset] [(.int a), (.ref b6)])) _
    exact Steps.refl _)
  have Z_51 : n0 ≤ T36.heap.size := (Nat.le_trans Z_27 Kp36.1)
  have V_52 : Arv Z T36.heap b10_b12 k12_10 .int (16 : Int32) t12 (.int (0 : Int32)) := (Q23_6.keep Kp36 (ninS (Ne.symm ne_b6_b10_b12) (ninS (Ne.symm ne10_11) nin0)))
  obtain ⟨cq53, kq53, q53a, q53b, q53c⟩ := isOf hZ e40 Q36_0
  obtain ⟨_, _, ⟨T53, L53, k53, n53⟩, -, X53, ⟨Lc53, hQ53, l53, y53, z53⟩, st53⟩ := X40.virtualBack hx (y := (⟨"com/example/futures_from_states/futuresfromstates/model/Choices", "choose", "(I)I"⟩ : MethodName)) (z := (⟨"com/example/futures_from_states/futuresfromstates/model/Choices", "choose", "(I)I"⟩ : MethodName)) hown (mvT hZ (hw _ (List.mem_of_getElem? (i := 14) rfl))) (mvT hZ (hw _ (List.mem_of_getElem? (i := 15) rfl))) (notFace_of_selects (args := #[]) (mvT hZ (hw _ (List.mem_of_getElem? (i := 17) rfl)))) (mvT hZ (hw _ (List.mem_of_getElem? (i := 17) rfl))) (mvT hZ (hw _ (List.mem_of_getElem? (i := 16) rfl))) (by decide) (backOf (W := 0) (rm3 l Z a0 hw [] b6 a b10_b5 b10_b12 k5_10 k12_10 c13 t12 (0 : Int32) s13 T36.heap n0 Z_51 Q36_0 Q36_1 Q36_2 Q36_3 Q36_4 Q36_5 V_52 ne_b6_b10_b5 ne_b6_b10_b12 ne10_11 ge_b6 ge_b10_b5 ge_b10_b12 (own_w01 hI13)) hZ (hw _ (List.mem_of_getElem? (i := 18) rfl)) (hw _ (List.mem_of_getElem? (i := 2) rfl)) (by decide) (by decide)) q53a q53c (g := (mkF m 132 #[.val (.int p0), .val (.int p1), .val (.int p2), .val (.int a), .val (.int b0), .val (.int b1), .val (.int tot), .val (.ref b6), .val (.int v40_0), .val (.int r15), .val (.int r24), .val (.int r37), .unset, .unset, .unset, .unset, .unset, .unset] [(.int a), (.ref b6)])) rfl (by rw [hml]; rfl) K50 (argsL := [(.int a)]) (rest := []) (lenOf pd_1 rfl) rfl (by show 2 * 0 + _ ≤ _; exact Nat.le_of_eq rfl) (hb hby at_132) (fun _ _ => ⟨rfl, e40, (by decide : 3 + 0 ≤ _), (by decide : 36 + 0 ≤ _)⟩)
  dsimp only [Pt.U, Pt.locs, Pt.cells, Pt.slots] at X53 l53 y53 z53 st53 hQ53
  subst l53 y53 z53
  obtain ⟨rfl, N53, Kp53, Q53_0, Q53_1, Q53_2, Q53_3, Q53_4, Q53_5, Q53_6⟩ := hQ53
  have N53' := Fr.app N40 N53
  have K55 : Steps p.tables e below _ (T53.setTop (mkF m 135 #[.val (.int p0), .val (.int p1), .val (.int p2), .val (.int a), .val (.int b0), .val (.int b1), .val (.int tot), .val (.ref b6), .val (.int v40_0), .val (.int r15), .val (.int r24), .val (.int r37), .unset, .unset, .unset, .unset, .unset, .unset] [(.int (f_rm3 a c13 (0 : Int32) s13))])) := st53
  obtain ⟨r54, hr54⟩ : ∃ z : Int32, (f_rm3 a c13 (0 : Int32) s13) = z := ⟨_, rfl⟩
  rw [hr54] at K55
  obtain ⟨m21, hm21⟩ : ∃ z : Int32, (u_rm3_3 a (0 : Int32)) = z := ⟨_, rfl⟩
  rw [hm21] at Q53_3
  obtain ⟨s21, hs21⟩ : ∃ z : Int32, (u_rm3_4 a (0 : Int32) s13) = z := ⟨_, rfl⟩
  rw [hs21] at Q53_4
  obtain ⟨c21, hc21⟩ : ∃ z : List Value, (u_rm3_5 a c13 (0 : Int32) s13) = z := ⟨_, rfl⟩
  rw [hc21] at Q53_5
  obtain ⟨t21, ht21⟩ : ∃ z : List Value, (u_rm3_6 a t12 (0 : Int32) s13) = z := ⟨_, rfl⟩
  rw [ht21] at Q53_6
  have hI21 := own_ivc hI13 hm21 hc21 ht21
  have K56 : Steps p.tables e below _ (T53.setTop (mkF m 141 #[.val (.int p0), .val (.int p1), .val (.int p2), .val (.int a), .val (.int b0), .val (.int b1), .val (.int tot), .val (.ref b6), .val (.int v40_0), .val (.int r15), .val (.int r24), .val (.int r37), .val (.int r54), .unset, .unset, .unset, .unset, .unset] [(.int r54), (.ref b6)])) := K55.trans (by
    show Steps p.tables e below (T53.setTop (mkF m 135 #[.val (.int p0), .val (.int p1), .val (.int p2), .val (.int a), .val (.int b0), .val (.int b1), .val (.int tot), .val (.ref b6), .val (.int v40_0), .val (.int r15), .val (.int r24), .val (.int r37), .unset, .unset, .unset, .unset, .unset, .unset] [(.int r54)])) _
    refine XS.istore X53.here hx rfl (hb hby at_135) rfl (l' := #[.val (.int p0), .val (.int p1), .val (.int p2), .val (.int a), .val (.int b0), .val (.int b1), .val (.int tot), .val (.ref b6), .val (.int v40_0), .val (.int r15), .val (.int r24), .val (.int r37), .val (.int r54), .unset, .unset, .unset, .unset, .unset]) rfl ?_
    show Steps p.tables e below (T53.setTop (mkF m 137 #[.val (.int p0), .val (.int p1), .val (.int p2), .val (.int a), .val (.int b0), .val (.int b1), .val (.int tot), .val (.ref b6), .val (.int v40_0), .val (.int r15), .val (.int r24), .val (.int r37), .val (.int r54), .unset, .unset, .unset, .unset, .unset] [])) _
    refine XS.aload X53.here hx rfl (hb hby at_137) rfl rfl ?_
    show Steps p.tables e below (T53.setTop (mkF m 139 #[.val (.int p0), .val (.int p1), .val (.int p2), .val (.int a), .val (.int b0), .val (.int b1), .val (.int tot), .val (.ref b6), .val (.int v40_0), .val (.int r15), .val (.int r24), .val (.int r37), .val (.int r54), .unset, .unset, .unset, .unset, .unset] [(.ref b6)])) _
    refine XS.iload X53.here hx rfl (hb hby at_139) rfl ?_
    show Steps p.tables e below (T53.setTop (mkF m 141 #[.val (.int p0), .val (.int p1), .val (.int p2), .val (.int a), .val (.int b0), .val (.int b1), .val (.int tot), .val (.ref b6), .val (.int v40_0), .val (.int r15), .val (.int r24), .val (.int r37), .val (.int r54), .unset, .unset, .unset, .unset, .unset] [(.int r54), (.ref b6)])) _
    exact Steps.refl _)
  obtain ⟨v57_0, hv57_0, S57⟩ : ∃ (v57_0 : Int32), (if r54 = (0 : Int32) then b0 else b1) = v57_0 ∧ Steps p.tables e below (T53.setTop (mkF m 141 #[.val (.int p0), .val (.int p1), .val (.int p2), .val (.int a), .val (.int b0), .val (.int b1), .val (.int tot), .val (.ref b6), .val (.int v40_0), .val (.int r15), .val (.int r24), .val (.int r37), .val (.int r54), .unset, .unset, .unset, .unset, .unset] [(.int r54), (.ref b6)])) (T53.setTop (mkF m 151 #[.val (.int p0), .val (.int p1), .val (.int p2), .val (.int a), .val (.int b0), .val (.int b1), .val (.int tot), .val (.ref b6), .val (.int v40_0), .val (.int r15), .val (.int r24), .val (.int r37), .val (.int r54), .unset, .unset, .unset, .unset, .unset] [(.int v57_0), (.ref b6)])) := by
    have R57 := Steps.refl (tb := p.tables) (e := e) (below := below) (T53.setTop (mkF m 141 #[.val (.int p0), .val (.int p1), .val (.int p2), .val (.int a), .val (.int b0), .val (.int b1), .val (.int tot), .val (.ref b6), .val (.int v40_0), .val (.int r15), .val (.int r24), .val (.int r37), .val (.int r54), .unset, .unset, .unset, .unset, .unset] [(.int r54), (.ref b6)]))
    by_cases hc141 : r54 = (0 : Int32)
    · have K58 : Steps p.tables e below _ (T53.setTop (mkF m 151 #[.val (.int p0), .val (.int p1), .val (.int p2), .val (.int a), .val (.int b0), .val (.int b1), .val (.int tot), .val (.ref b6), .val (.int v40_0), .val (.int r15), .val (.int r24), .val (.int r37), .val (.int r54), .unset, .unset, .unset, .unset, .unset] [(.int b0), (.ref b6)])) := R57.trans (by
        show Steps p.tables e below (T53.setTop (mkF m 141 #[.val (.int p0), .val (.int p1), .val (.int p2), .val (.int a), .val (.int b0), .val (.int b1), .val (.int tot), .val (.ref b6), .val (.int v40_0), .val (.int r15), .val (.int r24), .val (.int r37), .val (.int r54), .unset, .unset, .unset, .unset, .unset] [(.int r54), (.ref b6)])) _
        refine XS.ifNo X53.here hx rfl (hb hby at_141) rfl ((if0 _ _).trans (teq hc141).2) ?_
        show Steps p.tables e below (T53.setTop (mkF m 144 #[.val (.int p0), .val (.int p1), .val (.int p2), .val (.int a), .val (.int b0), .val (.int b1), .val (.int tot), .val (.ref b6), .val (.int v40_0), .val (.int r15), .val (.int r24), .val (.int r37), .val (.int r54), .unset, .unset, .unset, .unset, .unset] [(.ref b6)])) _
        refine XS.iload X53.here hx rfl (hb hby at_144) rfl ?_
        show Steps p.tables e below (T53.setTop (mkF m 146 #[.val (.int p0), .val (.int p1), .val (.int p2), .val (.int a), .val (.int b0), .val (.int b1), .val (.int tot), .val (.ref b6), .val (.int v40_0), .val (.int r15), .val (.int r24), .val (.int r37), .val (.int r54), .unset, .unset, .unset, .unset, .unset] [(.int b0), (.ref b6)])) _
        refine XS.goto X53.here hx rfl (pc0 := 146) (pc' := 151) rfl (hb hby at_146) (by decide) (by decide) ?_
        show Steps p.tables e below (T53.setTop (mkF m 151 #[.val (.int p0), .val (.int p1), .val (.int p2), .val (.int a), .val (.int b0), .val (.int b1), .val (.int tot), .val (.ref b6), .val (.int v40_0), .val (.int r15), .val (.int r24), .val (.int r37), .val (.int r54), .unset, .unset, .unset, .unset, .unset] [(.int b0), (.ref b6)])) _
        exact Steps.refl _)
      exact ⟨b0, (by rw [if_pos hc141]), K58⟩
    · have K59 : Steps p.tables e below _ (T53.setTop (mkF m 151 #[.val (.int p0), .val (.int p1), .val (.int p2), .val (.int a), .val (.int b0), .val (.int b1), .val (.int tot), .val (.ref b6), .val (.int v40_0), .val (.int r15), .val (.int r24), .val (.int r37), .val (.int r54), .unset, .unset, .unset, .unset, .unset] [(.int b1), (.ref b6)])) := R57.trans (by
        show Steps p.tables e below (T53.setTop (mkF m 141 #[.val (.int p0), .val (.int p1), .val (.int p2), .val (.int a), .val (.int b0), .val (.int b1), .val (.int tot), .val (.ref b6), .val (.int v40_0), .val (.int r15), .val (.int r24), .val (.int r37), .val (.int r54), .unset, .unset, .unset, .unset, .unset] [(.int r54), (.ref b6)])) _
        refine XS.ifYes X53.here hx rfl (pc0 := 141) (pc' := 149) rfl (hb hby at_141) rfl ((if0 _ _).trans (feq hc141).2) (by decide) (by decide) ?_
        show Steps p.tables e below (T53.setTop (mkF m 149 #[.val (.int p0), .val (.int p1), .val (.int p2), .val (.int a), .val (.int b0), .val (.int b1), .val (.int tot), .val (.ref b6), .val (.int v40_0), .val (.int r15), .val (.int r24), .val (.int r37), .val (.int r54), .unset, .unset, .unset, .unset, .unset] [(.ref b6)])) _
        refine XS.iload X53.here hx rfl (hb hby at_149) rfl ?_
        show Steps p.tables e below (T53.setTop (mkF m 151 #[.val (.int p0), .val (.int p1), .val (.int p2), .val (.int a), .val (.int b0), .val (.int b1), .val (.int tot), .val (.ref b6), .val (.int v40_0), .val (.int r15), .val (.int r24), .val (.int r37), .val (.int r54), .unset, .unset, .unset, .unset, .unset] [(.int b1), (.ref b6)])) _
        exact Steps.refl _)
      exact ⟨b1, (by rw [if_neg hc141]), K59⟩
  have K60 := K56.trans S57
  have Z_61 : n0 ≤ T53.heap.size := (Nat.le_trans Z_51 Kp53.1)
  obtain ⟨cq62, kq62, q62a, q62b, q62c⟩ := isOf hZ rfl Q53_0
  obtain ⟨_, _, ⟨T62, L62, k62, n62⟩, -, X62, ⟨Lc62, hQ62, l62, y62, z62⟩, st62⟩ := X53.virtualBack hx (y := (⟨"com/example/futures_from_states/futuresfromstates/model/Choices", "choose", "(I)I"⟩ : MethodName)) (z := (⟨"com/example/futures_from_states/futuresfromstates/model/Choices", "choose", "(I)I"⟩ : MethodName)) hown (mvT hZ (hw _ (List.mem_of_getElem? (i := 14) rfl))) (mvT hZ (hw _ (List.mem_of_getElem? (i := 15) rfl))) (notFace_of_selects (args := #[]) (mvT hZ (hw _ (List.mem_of_getElem? (i := 17) rfl)))) (mvT hZ (hw _ (List.mem_of_getElem? (i := 17) rfl))) (mvT hZ (hw _ (List.mem_of_getElem? (i := 16) rfl))) (by decide) (backOf (W := 0) (rm3 l Z a0 hw [] b6 v57_0 b10_b5 b10_b12 k5_10 k12_10 c21 t21 m21 s21 T53.heap n0 Z_61 Q53_0 Q53_1 Q53_2 Q53_3 Q53_4 Q53_5 Q53_6 ne_b6_b10_b5 ne_b6_b10_b12 ne10_11 ge_b6 ge_b10_b5 ge_b10_b12 (hI21)) hZ (hw _ (List.mem_of_getElem? (i := 18) rfl)) (hw _ (List.mem_of_getElem? (i := 2) rfl)) (by decide) (by decide)) q62a q62c (g := (mkF m 151 #[.val (.int p0), .val (.int p1), .val (.int p2), .val (.int a), .val (.int b0), .val (.int b1), .val (.int tot), .val (.ref b6), .val (.int v40_0), .val (.int r15), .val (.int r24), .val (.int r37), .val (.int r54), .unset, .unset, .unset, .unset, .unset] [(.int v57_0), (.ref b6)])) rfl (by rw [hml]; rfl) K60 (argsL := [(.int v57_0)]) (rest := []) (lenOf pd_1 rfl) rfl (by show 2 * 0 + _ ≤ _; exact Nat.le_of_eq rfl) (hb hby at_151) (fun _ _ => ⟨rfl, rfl, (by decide : 3 + 0 ≤ _), (by decide : 36 + 0 ≤ _)⟩)
  dsimp only [Pt.U, Pt.locs, Pt.cells, Pt.slots] at X62 l62 y62 z62 st62 hQ62
  subst l62 y62 z62
  obtain ⟨rfl, N62, Kp62, Q62_0, Q62_1, Q62_2, Q62_3, Q62_4, Q62_5, Q62_6⟩ := hQ62
  have N62' := Fr.app N53' N62
  have K64 : Steps p.tables e below _ (T62.setTop (mkF m 154 #[.val (.int p0), .val (.int p1), .val (.int p2), .val (.int a), .val (.int b0), .val (.int b1), .val (.int tot), .val (.ref b6), .val (.int v40_0), .val (.int r15), .val (.int r24), .val (.int r37), .val (.int r54), .unset, .unset, .unset, .unset, .unset] [(.int (f_rm3 v57_0 c21 m21 s21))])) := st62
  obtain ⟨r63, hr63⟩ : ∃ z : Int32, (f_rm3 v57_0 c21 m21 s21) = z := ⟨_, rfl⟩
  rw [hr63] at K64
  obtain ⟨m22, hm22⟩ : ∃ z : Int32, (u_rm3_3 v57_0 m21) = z := ⟨_, rfl⟩
  rw [hm22] at Q62_3
  obtain ⟨s22, hs22⟩ : ∃ z : Int32, (u_rm3_4 v57_0 m21 s21) = z := ⟨_, rfl⟩
  rw [hs22] at Q62_4
  obtain ⟨c22, hc22⟩ : ∃ z : List Value, (u_rm3_5 v57_0 c21 m21 s21) = z := ⟨_, rfl⟩
  rw [hc22] at Q62_5
  obtain ⟨t22, ht22⟩ : ∃ z : List Value, (u_rm3_6 v57_0 t21 m21 s21) = z := ⟨_, rfl⟩
  rw [ht22] at Q62_6
  have hI22 := own_ivc hI21 hm22 hc22 ht22
  have K65 : Steps p.tables e below _ (T62.setTop (mkF m 158 #[.val (.int p0), .val (.int p1), .val (.int p2), .val (.int a), .val (.int b0), .val (.int b1), .val (.int tot), .val (.ref b6), .val (.int v40_0), .val (.int r15), .val (.int r24), .val (.int r37), .val (.int r54), .val (.int r63), .unset, .unset, .unset, .unset] [(.int v40_0)])) := K64.trans (by
    show Steps p.tables e below (T62.setTop (mkF m 154 #[.val (.int p0), .val (.int p1), .val (.int p2), .val (.int a), .val (.int b0), .val (.int b1), .val (.int tot), .val (.ref b6), .val (.int v40_0), .val (.int r15), .val (.int r24), .val (.int r37), .val (.int r54), .unset, .unset, .unset, .unset, .unset] [(.int r63)])) _
    refine XS.istore X62.here hx rfl (hb hby at_154) rfl (l' := #[.val (.int p0), .val (.int p1), .val (.int p2), .val (.int a), .val (.int b0), .val (.int b1), .val (.int tot), .val (.ref b6), .val (.int v40_0), .val (.int r15), .val (.int r24), .val (.int r37), .val (.int r54), .val (.int r63), .unset, .unset, .unset, .unset]) rfl ?_
    show Steps p.tables e below (T62.setTop (mkF m 156 #[.val (.int p0), .val (.int p1), .val (.int p2), .val (.int a), .val (.int b0), .val (.int b1), .val (.int tot), .val (.ref b6), .val (.int v40_0), .val (.int r15), .val (.int r24), .val (.int r37), .val (.int r54), .val (.int r63), .unset, .unset, .unset, .unset] [])) _
    refine XS.iload X62.here hx rfl (hb hby at_156) rfl ?_
    show Steps p.tables e below (T62.setTop (mkF m 158 #[.val (.int p0), .val (.int p1), .val (.int p2), .val (.int a), .val (.int b0), .val (.int b1), .val (.int tot), .val (.ref b6), .val (.int v40_0), .val (.int r15), .val (.int r24), .val (.int r37), .val (.int r54), .val (.int r63), .unset, .unset, .unset, .unset] [(.int v40_0)])) _
    exact Steps.refl _)
  obtain ⟨T66, L66, v66_0, X66, e66, N66, hv66_0, S66⟩ : ∃ (T66 : State) (L66 : List Loc) (v66_0 : Int32), Stand p l e room_1 s m #[(.int p0), (.int p1), (.int p2)] below meth c T66 L66 3 36 ∧ T66.heap = T62.heap ∧ Fr n0 L66 ∧ (if v40_0 = (0 : Int32) then (0 : Int32) else (if ((if r54 = (if ((1 : Int32) % tot) < b0 then (0 : Int32) else ((1 : Int32) + ((((1 : Int32) % tot) - b0) / b1))) then (if r63 = (if ((1 : Int32) % tot) < b0 then ((1 : Int32) % tot) else ((((1 : Int32) % tot) - b0) % b1)) then (1 : Int32) else (0 : Int32)) else (0 : Int32)) &&& 1) = (0 : Int32) then (0 : Int32) else (1 : Int32))) = v66_0 ∧ Steps p.tables e below (T62.setTop (mkF m 158 #[.val (.int p0), .val (.int p1), .val (.int p2), .val (.int a), .val (.int b0), .val (.int b1), .val (.int tot), .val (.ref b6), .val (.int v40_0), .val (.int r15), .val (.int r24), .val (.int r37), .val (.int r54), .val (.int r63), .unset, .unset, .unset, .unset] [(.int v40_0)])) (T66.setTop (mkF m 183 #[.val (.int p0), .val (.int p1), .val (.int p2), .val (.int a), .val (.int b0), .val (.int b1), .val (.int tot), .val (.ref b6), .val (.int v40_0), .val (.int r15), .val (.int r24), .val (.int r37), .val (.int r54), .val (.int r63), .unset, .unset, .unset, .unset] [(.int v66_0)])) := by
    have R66 := Steps.refl (tb := p.tables) (e := e) (below := below) (T62.setTop (mkF m 158 #[.val (.int p0), .val (.int p1), .val (.int p2), .val (.int a), .val (.int b0), .val (.int b1), .val (.int tot), .val (.ref b6), .val (.int v40_0), .val (.int r15), .val (.int r24), .val (.int r37), .val (.int r54), .val (.int r63), .unset, .unset, .unset, .unset] [(.int v40_0)]))
    by_cases hc158 : v40_0 = (0 : Int32)
    · have K67 : Steps p.tables e below _ (T62.setTop (mkF m 183 #[.val (.int p0), .val (.int p1), .val (.int p2), .val (.int a), .val (.int b0), .val (.int b1), .val (.int tot), .val (.ref b6), .val (.int v40_0), .val (.int r15), .val (.int r24), .val (.int r37), .val (.int r54), .val (.int r63), .unset, .unset, .unset, .unset] [(.int (0 : Int32))])) := R66.trans (by
        show Steps p.tables e below (T62.setTop (mkF m 158 #[.val (.int p0), .val (.int p1), .val (.int p2), .val (.int a), .val (.int b0), .val (.int b1), .val (.int tot), .val (.ref b6), .val (.int v40_0), .val (.int r15), .val (.int r24), .val (.int r37), .val (.int r54), .val (.int r63), .unset, .unset, .unset, .unset] [(.int v40_0)])) _
        refine XS.ifYes X62.here hx rfl (pc0 := 158) (pc' := 182) rfl (hb hby at_158) rfl ((if0 _ _).trans (teq hc158).1) (by decide) (by decide) ?_
        show Steps p.tables e below (T62.setTop (mkF m 182 #[.val (.int p0), .val (.int p1), .val (.int p2), .val (.int a), .val (.int b0), .val (.int b1), .val (.int tot), .val (.ref b6), .val (.int v40_0), .val (.int r15), .val (.int r24), .val (.int r37), .val (.int r54), .val (.int r63), .unset, .unset, .unset, .unset] [])) _
        refine XS.iconst X62.here hx rfl (hb hby at_182) ?_
        show Steps p.tables e below (T62.setTop (mkF m 183 #[.val (.int p0), .val (.int p1), .val (.int p2), .val (.int a), .val (.int b0), .val (.int b1), .val (.int tot), .val (.ref b6), .val (.int v40_0), .val (.int r15), .val (.int r24), .val (.int r37), .val (.int r54), .val (.int r63), .unset, .unset, .unset, .unset] [(.int (0 : Int32))])) _
        exact Steps.refl _)
      exact ⟨T62, _, (0 : Int32), X62, rfl, N62', (by rw [if_pos hc158]), K67⟩
    · have K68 : Steps p.tables e below _ (T62.setTop (mkF m 172 #[.val (.int p0), .val (.int p1), .val (.int p2), .val (.int a), .val (.int b0), .val (.int b1), .val (.int tot), .val (.ref b6), .val (.int v40_0), .val (.int r15), .val (.int r24), .val (.int r37), .val (.int r54), .val (.int r63), .unset, .unset, .unset, .unset] [(.int tot), (.int b1), (.int b0), (.int r63), (.int r54), (.int (1 : Int32))])) := R66.trans (by
        show Steps p.tables e below (T62.setTop (mkF m 158 #[.val (.int p0), .val (.int p1), .val (.int p2), .val (.int a), .val (.int b0), .val (.int b1), .val (.int tot), .val (.ref b6), .val (.int v40_0), .val (.int r15), .val (.int r24), .val (.int r37), .val (.int r54), .val (.int r63), .unset, .unset, .unset, .unset] [(.int v40_0)])) _
        refine XS.ifNo X62.here hx rfl (hb hby at_158) rfl ((if0 _ _).trans (feq hc158).1) ?_
        show Steps p.tables e below (T62.setTop (mkF m 161 #[.val (.int p0), .val (.int p1), .val (.int p2), .val (.int a), .val (.int b0), .val (.int b1), .val (.int tot), .val (.ref b6), .val (.int v40_0), .val (.int r15), .val (.int r24), .val (.int r37), .val (.int r54), .val (.int r63), .unset, .unset, .unset, .unset] [])) _
        refine XS.iconst X62.here hx rfl (hb hby at_161) ?_
        show Steps p.tables e below (T62.setTop (mkF m 162 #[.val (.int p0), .val (.int p1), .val (.int p2), .val (.int a), .val (.int b0), .val (.int b1), .val (.int tot), .val (.ref b6), .val (.int v40_0), .val (.int r15), .val (.int r24), .val (.int r37), .val (.int r54), .val (.int r63), .unset, .unset, .unset, .unset] [(.int (1 : Int32))])) _
        refine XS.iload X62.here hx rfl (hb hby at_162) rfl ?_
        show Steps p.tables e below (T62.setTop (mkF m 164 #[.val (.int p0), .val (.int p1), .val (.int p2), .val (.int a), .val (.int b0), .val (.int b1), .val (.int tot), .val (.ref b6), .val (.int v40_0), .val (.int r15), .val (.int r24), .val (.int r37), .val (.int r54), .val (.int r63), .unset, .unset, .unset, .unset] [(.int r54), (.int (1 : Int32))])) _
        refine XS.iload X62.here hx rfl (hb hby at_164) rfl ?_
        show Steps p.tables e below (T62.setTop (mkF m 166 #[.val (.int p0), .val (.int p1), .val (.int p2), .val (.int a), .val (.int b0), .val (.int b1), .val (.int tot), .val (.ref b6), .val (.int v40_0), .val (.int r15), .val (.int r24), .val (.int r37), .val (.int r54), .val (.int r63), .unset, .unset, .unset, .unset] [(.int r63), (.int r54), (.int (1 : Int32))])) _
        refine XS.iload X62.here hx rfl (hb hby at_166) rfl ?_
        show Steps p.tables e below (T62.setTop (mkF m 168 #[.val (.int p0), .val (.int p1), .val (.int p2), .val (.int a), .val (.int b0), .val (.int b1), .val (.int tot), .val (.ref b6), .val (.int v40_0), .val (.int r15), .val (.int r24), .val (.int r37), .val (.int r54), .val (.int r63), .unset, .unset, .unset, .unset] [(.int b0), (.int r63), (.int r54), (.int (1 : Int32))])) _
        refine XS.iload X62.here hx rfl (hb hby at_168) rfl ?_
        show Steps p.tables e below (T62.setTop (mkF m 170 #[.val (.int p0), .val (.int p1), .val (.int p2), .val (.int a), .val (.int b0), .val (.int b1), .val (.int tot), .val (.ref b6), .val (.int v40_0), .val (.int r15), .val (.int r24), .val (.int r37), .val (.int r54), .val (.int r63), .unset, .unset, .unset, .unset] [(.int b1), (.int b0), (.int r63), (.int r54), (.int (1 : Int32))])) _
        refine XS.iload X62.here hx rfl (hb hby at_170) rfl ?_
        show Steps p.tables e below (T62.setTop (mkF m 172 #[.val (.int p0), .val (.int p1), .val (.int p2), .val (.int a), .val (.int b0), .val (.int b1), .val (.int tot), .val (.ref b6), .val (.int v40_0), .val (.int r15), .val (.int r24), .val (.int r37), .val (.int r54), .val (.int r63), .unset, .unset, .unset, .unset] [(.int tot), (.int b1), (.int b0), (.int r63), (.int r54), (.int (1 : Int32))])) _
        exact Steps.refl _)
      have Z_69 : n0 ≤ T62.heap.size := (Nat.le_trans Z_61 Kp62.1)
      obtain ⟨_, _, ⟨T70, L70, k70, n70⟩, -, X70, ⟨Lc70, hQ70, l70, y70, z70⟩, st70⟩ := Jvm.LawKit.callS X62 hx (y := (⟨"com/example/futures_from_states/futuresfromstates/model/ChoicesNextPinLaw", "fits", "(IIIIII)Z"⟩ : MethodName)) hown (mvT hZ (hw _ (List.mem_of_getElem? (i := 23) rfl))) (mvT hZ (hw _ (List.mem_of_getElem? (i := 24) rfl))) (mvT hZ (hw _ (List.mem_of_getElem? (i := 25) rfl))) (mvT hZ (hw _ (List.mem_of_getElem? (i := 26) rfl))) (by decide) (backOf (W := 0) (rm4 l Z a0 hw [] (1 : Int32) r54 r63 b0 b1 tot T62.heap n0 Z_69 (own_tot ha hb0 hb1 htot) (own_pos hb1)) hZ (hw _ (List.mem_of_getElem? (i := 26) rfl)) (hw _ (List.mem_of_getElem? (i := 25) rfl)) (by decide) (by decide)) (g := (mkF m 172 #[.val (.int p0), .val (.int p1), .val (.int p2), .val (.int a), .val (.int b0), .val (.int b1), .val (.int tot), .val (.ref b6), .val (.int v40_0), .val (.int r15), .val (.int r24), .val (.int r37), .val (.int r54), .val (.int r63), .unset, .unset, .unset, .unset] [(.int tot), (.int b1), (.int b0), (.int r63), (.int r54), (.int (1 : Int32))])) rfl (by rw [hml]; rfl) (argsL := [(.int (1 : Int32)), (.int r54), (.int r63), (.int b0), (.int b1), (.int tot)]) (rest := []) (lenOf pd_2 rfl) rfl (by show 2 * 0 + _ ≤ _; exact Nat.le_of_eq rfl) (hb hby at_172) (fun _ _ => ⟨rfl, rfl, (by decide : 3 + 0 ≤ _), (by decide : 36 + 0 ≤ _)⟩)
      dsimp only [Pt.U, Pt.locs, Pt.cells, Pt.slots] at X70 l70 y70 z70 st70 hQ70
      subst l70 y70 z70
      obtain ⟨rfl, N70, eh70⟩ := hQ70
      have N70' := Fr.app N62' N70
      have K72 : Steps p.tables e below _ (T70.setTop (mkF m 175 #[.val (.int p0), .val (.int p1), .val (.int p2), .val (.int a), .val (.int b0), .val (.int b1), .val (.int tot), .val (.ref b6), .val (.int v40_0), .val (.int r15), .val (.int r24), .val (.int r37), .val (.int r54), .val (.int r63), .unset, .unset, .unset, .unset] [(.int ((if r54 = (if ((1 : Int32) % tot) < b0 then (0 : Int32) else ((1 : Int32) + ((((1 : Int32) % tot) - b0) / b1))) then (if r63 = (if ((1 : Int32) % tot) < b0 then ((1 : Int32) % tot) else ((((1 : Int32) % tot) - b0) % b1)) then (1 : Int32) else (0 : Int32)) else (0 : Int32)) &&& 1))])) := K68.trans (st70 _ (Steps.refl _))
      obtain ⟨r71, hr71⟩ : ∃ z : Int32, ((if r54 = (if ((1 : Int32) % tot) < b0 then (0 : Int32) else ((1 : Int32) + ((((1 : Int32) % tot) - b0) / b1))) then (if r63 = (if ((1 : Int32) % tot) < b0 then ((1 : Int32) % tot) else ((((1 : Int32) % tot) - b0) % b1)) then (1 : Int32) else (0 : Int32)) else (0 : Int32)) &&& 1) = z := ⟨_, rfl⟩
      rw [hr71] at K72
      by_cases hc175 : r71 = (0 : Int32)
      · have K73 : Steps p.tables e below _ (T70.setTop (mkF m 183 #[.val (.int p0), .val (.int p1), .val (.int p2), .val (.int a), .val (.int b0), .val (.int b1), .val (.int tot), .val (.ref b6), .val (.int v40_0), .val (.int r15), .val (.int r24), .val (.int r37), .val (.int r54), .val (.int r63), .unset, .unset, .unset, .unset] [(.int (0 : Int32))])) := K72.trans (by
          show Steps p.tables e below (T70.setTop (mkF m 175 #[.val (.int p0), .val (.int p1), .val (.int p2), .val (.int a), .val (.int b0), .val (.int b1), .val (.int tot), .val (.ref b6), .val (.int v40_0), .val (.int r15), .val (.int r24), .val (.int r37), .val (.int r54), .val (.int r63), .unset, .unset, .unset, .unset] [(.int r71)])) _
          refine XS.ifYes X70.here hx rfl (pc0 := 175) (pc' := 182) rfl (hb hby at_175) rfl ((if0 _ _).trans (teq hc175).1) (by decide) (by decide) ?_
          show Steps p.tables e below (T70.setTop (mkF m 182 #[.val (.int p0), .val (.int p1), .val (.int p2), .val (.int a), .val (.int b0), .val (.int b1), .val (.int tot), .val (.ref b6), .val (.int v40_0), .val (.int r15), .val (.int r24), .val (.int r37), .val (.int r54), .val (.int r63), .unset, .unset, .unset, .unset] [])) _
          refine XS.iconst X70.here hx rfl (hb hby at_182) ?_
          show Steps p.tables e below (T70.setTop (mkF m 183 #[.val (.int p0), .val (.int p1), .val (.int p2), .val (.int a), .val (.int b0), .val (.int b1), .val (.int tot), .val (.ref b6), .val (.int v40_0), .val (.int r15), .val (.int r24), .val (.int r37), .val (.int r54), .val (.int r63), .unset, .unset, .unset, .unset] [(.int (0 : Int32))])) _
          exact Steps.refl _)
        subst hr71
        exact ⟨T70, _, (0 : Int32), X70, eh70, N70', (by rw [if_neg hc158, if_pos hc175]), K73⟩
      · have K74 : Steps p.tables e below _ (T70.setTop (mkF m 183 #[.val (.int p0), .val (.int p1), .val (.int p2), .val (.int a), .val (.int b0), .val (.int b1), .val (.int tot), .val (.ref b6), .val (.int v40_0), .val (.int r15), .val (.int r24), .val (.int r37), .val (.int r54), .val (.int r63), .unset, .unset, .unset, .unset] [(.int (1 : Int32))])) := K72.trans (by
          show Steps p.tables e below (T70.setTop (mkF m 175 #[.val (.int p0), .val (.int p1), .val (.int p2), .val (.int a), .val (.int b0), .val (.int b1), .val (.int tot), .val (.ref b6), .val (.int v40_0), .val (.int r15), .val (.int r24), .val (.int r37), .val (.int r54), .val (.int r63), .unset, .unset, .unset, .unset] [(.int r71)])) _
          refine XS.ifNo X70.here hx rfl (hb hby at_175) rfl ((if0 _ _).trans (feq hc175).1) ?_
          show Steps p.tables e below (T70.setTop (mkF m 178 #[.val (.int p0), .val (.int p1), .val (.int p2), .val (.int a), .val (.int b0), .val (.int b1), .val (.int tot), .val (.ref b6), .val (.int v40_0), .val (.int r15), .val (.int r24), .val (.int r37), .val (.int r54), .val (.int r63), .unset, .unset, .unset, .unset] [])) _
          refine XS.iconst X70.here hx rfl (hb hby at_178) ?_
          show Steps p.tables e below (T70.setTop (mkF m 179 #[.val (.int p0), .val (.int p1), .val (.int p2), .val (.int a), .val (.int b0), .val (.int b1), .val (.int tot), .val (.ref b6), .val (.int v40_0), .val (.int r15), .val (.int r24), .val (.int r37), .val (.int r54), .val (.int r63), .unset, .unset, .unset, .unset] [(.int (1 : Int32))])) _
          refine XS.goto X70.here hx rfl (pc0 := 179) (pc' := 183) rfl (hb hby at_179) (by decide) (by decide) ?_
          show Steps p.tables e below (T70.setTop (mkF m 183 #[.val (.int p0), .val (.int p1), .val (.int p2), .val (.int a), .val (.int b0), .val (.int b1), .val (.int tot), .val (.ref b6), .val (.int v40_0), .val (.int r15), .val (.int r24), .val (.int r37), .val (.int r54), .val (.int r63), .unset, .unset, .unset, .unset] [(.int (1 : Int32))])) _
          exact Steps.refl _)
        subst hr71
        exact ⟨T70, _, (1 : Int32), X70, eh70, N70', (by rw [if_neg hc158, if_neg hc175]), K74⟩
  have K75 := K65.trans S66
  have K76 : Steps p.tables e below _ (T66.setTop (mkF m 187 #[.val (.int p0), .val (.int p1), .val (.int p2), .val (.int a), .val (.int b0), .val (.int b1), .val (.int tot), .val (.ref b6), .val (.int v66_0), .val (.int r15), .val (.int r24), .val (.int r37), .val (.int r54), .val (.int r63), .unset, .unset, .unset, .unset] [(.ref b6)])) := K75.trans (by
    show Steps p.tables e below (T66.setTop (mkF m 183 #[.val (.int p0), .val (.int p1), .val (.int p2), .val (.int a), .val (.int b0), .val (.int b1), .val (.int tot), .val (.ref b6), .val (.int v40_0), .val (.int r15), .val (.int r24), .val (.int r37), .val (.int r54), .val (.int r63), .unset, .unset, .unset, .unset] [(.int v66_0)])) _
    refine XS.istore X66.here hx rfl (hb hby at_183) rfl (l' := #[.val (.int p0), .val (.int p1), .val (.int p2), .val (.int a), .val (.int b0), .val (.int b1), .val (.int tot), .val (.ref b6), .val (.int v66_0), .val (.int r15), .val (.int r24), .val (.int r37), .val (.int r54), .val (.int r63), .unset, .unset, .unset, .unset]) rfl ?_
    show Steps p.tables e below (T66.setTop (mkF m 185 #[.val (.int p0), .val (.int p1), .val (.int p2), .val (.int a), .val (.int b0), .val (.int b1), .val (.int tot), .val (.ref b6), .val (.int v66_0), .val (.int r15), .val (.int r24), .val (.int r37), .val (.int r54), .val (.int r63), .unset, .unset, .unset, .unset] [])) _
    refine XS.aload X66.here hx rfl (hb hby at_185) rfl rfl ?_
    show Steps p.tables e below (T66.setTop (mkF m 187 #[.val (.int p0), .val (.int p1), .val (.int p2), .val (.int a), .val (.int b0), .val (.int b1), .val (.int tot), .val (.ref b6), .val (.int v66_0), .val (.int r15), .val (.int r24), .val (.int r37), .val (.int r54), .val (.int r63), .unset, .unset, .unset, .unset] [(.ref b6)])) _
    exact Steps.refl _)
  have Z_77 : n0 ≤ T62.heap.size := (Nat.le_trans Z_61 Kp62.1)
  obtain ⟨cq78, kq78, q78a, q78b, q78c⟩ := isOf hZ e66 Q62_0
  obtain ⟨_, _, ⟨T78, L78, k78, n78⟩, -, X78, ⟨Lc78, hQ78, l78, y78, z78⟩, st78⟩ := X66.virtualBack hx (y := (⟨"com/example/futures_from_states/futuresfromstates/model/Choices", "next", "()Z"⟩ : MethodName)) (z := (⟨"com/example/futures_from_states/futuresfromstates/model/Choices", "next", "()Z"⟩ : MethodName)) hown (mvT hZ (hw _ (List.mem_of_getElem? (i := 27) rfl))) (mvT hZ (hw _ (List.mem_of_getElem? (i := 28) rfl))) (notFace_of_selects (args := #[]) (mvT hZ (hw _ (List.mem_of_getElem? (i := 30) rfl)))) (mvT hZ (hw _ (List.mem_of_getElem? (i := 30) rfl))) (mvT hZ (hw _ (List.mem_of_getElem? (i := 29) rfl))) (by decide) (backOf (W := 0) (rm5 l Z a0 hw [] b6 b10_b5 b10_b12 k5_10 k12_10 c22 t22 m22 s22 T62.heap n0 Z_77 Q62_0 Q62_1 Q62_2 Q62_3 Q62_4 Q62_5 Q62_6 ne_b6_b10_b5 ne_b6_b10_b12 ne10_11 ge_b6 ge_b10_b5 (hI22)) hZ (hw _ (List.mem_of_getElem? (i := 31) rfl)) (hw _ (List.mem_of_getElem? (i := 2) rfl)) (by decide) (by decide)) q78a q78c (g := (mkF m 187 #[.val (.int p0), .val (.int p1), .val (.int p2), .val (.int a), .val (.int b0), .val (.int b1), .val (.int tot), .val (.ref b6), .val (.int v66_0), .val (.int r15), .val (.int r24), .val (.int r37), .val (.int r54), .val (.int r63), .unset, .unset, .unset, .unset] [(.ref b6)])) rfl (by rw [hml]; rfl) K76 (argsL := []) (rest := []) (lenOf pd_3 rfl) rfl (by show 2 * 0 + _ ≤ _; exact Nat.le_of_eq rfl) (hb hby at_187) (fun _ _ => ⟨rfl, e66, (by decide : 3 + 0 ≤ _), (by decide : 36 + 0 ≤ _)⟩)
  dsimp only [Pt.U, Pt.locs, Pt.cells, Pt.slots] at X78 l78 y78 z78 st78 hQ78
  subst l78 y78 z78
  obtain ⟨rfl, N78, Kp78, Q78_0, Q78_1, Q78_2, Q78_3, Q78_4, Q78_5⟩ := hQ78
  have N78' := Fr.app N66 N78
  have K80 : Steps p.tables e below _ (T78.setTop (mkF m 190 #[.val (.int p0), .val (.int p1), .val (.int p2), .val (.int a), .val (.int b0), .val (.int b1), .val (.int tot), .val (.ref b6), .val (.int v66_0), .val (.int r15), .val (.int r24), .val (.int r37), .val (.int r54), .val (.int r63), .unset, .unset, .unset, .unset] [(.int (f_rm5 c22 t22 m22))])) := st78
  obtain ⟨r79, hr79⟩ : ∃ z : Int32, (f_rm5 c22 t22 m22) = z := ⟨_, rfl⟩
  rw [hr79] at K80
  obtain ⟨s23, hs23⟩ : ∃ z : Int32, (u_rm5_4 c22 t22 m22) = z := ⟨_, rfl⟩
  rw [hs23] at Q78_4
  obtain ⟨c23, hc23⟩ : ∃ z : List Value, (u_rm5_5 c22 t22 m22) = z := ⟨_, rfl⟩
  rw [hc23] at Q78_5
  have hI23 := own_ivn hI22 hc23
  have K81 : Steps p.tables e below _ (T78.setTop (mkF m 194 #[.val (.int p0), .val (.int p1), .val (.int p2), .val (.int a), .val (.int b0), .val (.int b1), .val (.int tot), .val (.ref b6), .val (.int v66_0), .val (.int r15), .val (.int r24), .val (.int r37), .val (.int r54), .val (.int r63), .val (.int r79), .unset, .unset, .unset] [(.int v66_0)])) := K80.trans (by
    show Steps p.tables e below (T78.setTop (mkF m 190 #[.val (.int p0), .val (.int p1), .val (.int p2), .val (.int a), .val (.int b0), .val (.int b1), .val (.int tot), .val (.ref b6), .val (.int v66_0), .val (.int r15), .val (.int r24), .val (.int r37), .val (.int r54), .val (.int r63), .unset, .unset, .unset, .unset] [(.int r79)])) _
    refine XS.istore X78.here hx rfl (hb hby at_190) rfl (l' := #[.val (.int p0), .val (.int p1), .val (.int p2), .val (.int a), .val (.int b0), .val (.int b1), .val (.int tot), .val (.ref b6), .val (.int v66_0), .val (.int r15), .val (.int r24), .val (.int r37), .val (.int r54), .val (.int r63), .val (.int r79), .unset, .unset, .unset]) rfl ?_
    show Steps p.tables e below (T78.setTop (mkF m 192 #[.val (.int p0), .val (.int p1), .val (.int p2), .val (.int a), .val (.int b0), .val (.int b1), .val (.int tot), .val (.ref b6), .val (.int v66_0), .val (.int r15), .val (.int r24), .val (.int r37), .val (.int r54), .val (.int r63), .val (.int r79), .unset, .unset, .unset] [])) _
    refine XS.iload X78.here hx rfl (hb hby at_192) rfl ?_
    show Steps p.tables e below (T78.setTop (mkF m 194 #[.val (.int p0), .val (.int p1), .val (.int p2), .val (.int a), .val (.int b0), .val (.int b1), .val (.int tot), .val (.ref b6), .val (.int v66_0), .val (.int r15), .val (.int r24), .val (.int r37), .val (.int r54), .val (.int r63), .val (.int r79), .unset, .unset, .unset] [(.int v66_0)])) _
    exact Steps.refl _)
  obtain ⟨T82, L82, v82_0, X82, e82, N82, hv82_0, S82⟩ : ∃ (T82 : State) (L82 : List Loc) (v82_0 : Int32), Stand p l e room_1 s m #[(.int p0), (.int p1), (.int p2)] below meth c T82 L82 3 36 ∧ T82.heap = T78.heap ∧ Fr n0 L82 ∧ (if v66_0 = (0 : Int32) then (0 : Int32) else (if r79 = ((if ((1 : Int32) % tot) = (tot - (1 : Int32)) then (0 : Int32) else (1 : Int32)) &&& 1) then (1 : Int32) else (0 : Int32))) = v82_0 ∧ Steps p.tables e below (T78.setTop (mkF m 194 #[.val (.int p0), .val (.int p1), .val (.int p2), .val (.int a), .val (.int b0), .val (.int b1), .val (.int tot), .val (.ref b6), .val (.int v66_0), .val (.int r15), .val (.int r24), .val (.int r37), .val (.int r54), .val (.int r63), .val (.int r79), .unset, .unset, .unset] [(.int v66_0)])) (T82.setTop (mkF m 213 #[.val (.int p0), .val (.int p1), .val (.int p2), .val (.int a), .val (.int b0), .val (.int b1), .val (.int tot), .val (.ref b6), .val (.int v66_0), .val (.int r15), .val (.int r24), .val (.int r37), .val (.int r54), .val (.int r63), .val (.int r79), .unset, .unset, .unset] [(.int v82_0)])) := by
    have R82 := Steps.refl (tb := p.tables) (e := e) (below := below) (T78.setTop (mkF m 194 #[.val (.int p0), .val (.int p1), .val (.int p2), .val (.int a), .val (.int b0), .val (.int b1), .val (.int tot), .val (.ref b6), .val (.int v66_0), .val (.int r15), .val (.int r24), .val (.int r37), .val (.int r54), .val (.int r63), .val (.int r79), .unset, .unset, .unset] [(.int v66_0)]))
    by_cases hc194 : v66_0 = (0 : Int32)
    · have K83 : Steps p.tables e below _ (T78.setTop (mkF m 213 #[.val (.int p0), .val (.int p1), .val (.int p2), .val (.int a), .val (.int b0), .val (.int b1), .val (.int tot), .val (.ref b6), .val (.int v66_0), .val (.int r15), .val (.int r24), .val (.int r37), .val (.int r54), .val (.int r63), .val (.int r79), .unset, .unset, .unset] [(.int (0 : Int32))])) := R82.trans (by
        show Steps p.tables e below (T78.setTop (mkF m 194 #[.val (.int p0), .val (.int p1), .val (.int p2), .val (.int a), .val (.int b0), .val (.int b1), .val (.int tot), .val (.ref b6), .val (.int v66_0), .val (.int r15), .val (.int r24), .val (.int r37), .val (.int r54), .val (.int r63), .val (.int r79), .unset, .unset, .unset] [(.int v66_0)])) _
        refine XS.ifYes X78.here hx rfl (pc0 := 194) (pc' := 212) rfl (hb hby at_194) rfl ((if0 _ _).trans (teq hc194).1) (by decide) (by decide) ?_
        show Steps p.tables e below (T78.setTop (mkF m 212 #[.val (.int p0), .val (.int p1), .val (.int p2), .val (.int a), .val (.int b0), .val (.int b1), .val (.int tot), .val (.ref b6), .val (.int v66_0), .val (.int r15), .val (.int r24), .val (.int r37), .val (.int r54), .val (.int r63), .val (.int r79), .unset, .unset, .unset] [])) _
        refine XS.iconst X78.here hx rfl (hb hby at_212) ?_
        show Steps p.tables e below (T78.setTop (mkF m 213 #[.val (.int p0), .val (.int p1), .val (.int p2), .val (.int a), .val (.int b0), .val (.int b1), .val (.int tot), .val (.ref b6), .val (.int v66_0), .val (.int r15), .val (.int r24), .val (.int r37), .val (.int r54), .val (.int r63), .val (.int r79), .unset, .unset, .unset] [(.int (0 : Int32))])) _
        exact Steps.refl _)
      exact ⟨T78, _, (0 : Int32), X78, rfl, N78', (by rw [if_pos hc194]), K83⟩
    · have K84 : Steps p.tables e below _ (T78.setTop (mkF m 202 #[.val (.int p0), .val (.int p1), .val (.int p2), .val (.int a), .val (.int b0), .val (.int b1), .val (.int tot), .val (.ref b6), .val (.int v66_0), .val (.int r15), .val (.int r24), .val (.int r37), .val (.int r54), .val (.int r63), .val (.int r79), .unset, .unset, .unset] [(.int tot), (.int (1 : Int32)), (.int r79)])) := R82.trans (by
        show Steps p.tables e below (T78.setTop (mkF m 194 #[.val (.int p0), .val (.int p1), .val (.int p2), .val (.int a), .val (.int b0), .val (.int b1), .val (.int tot), .val (.ref b6), .val (.int v66_0), .val (.int r15), .val (.int r24), .val (.int r37), .val (.int r54), .val (.int r63), .val (.int r79), .unset, .unset, .unset] [(.int v66_0)])) _
        refine XS.ifNo X78.here hx rfl (hb hby at_194) rfl ((if0 _ _).trans (feq hc194).1) ?_
        show Steps p.tables e below (T78.setTop (mkF m 197 #[.val (.int p0), .val (.int p1), .val (.int p2), .val (.int a), .val (.int b0), .val (.int b1), .val (.int tot), .val (.ref b6), .val (.int v66_0), .val (.int r15), .val (.int r24), .val (.int r37), .val (.int r54), .val (.int r63), .val (.int r79), .unset, .unset, .unset] [])) _
        refine XS.iload X78.here hx rfl (hb hby at_197) rfl ?_
        show Steps p.tables e below (T78.setTop (mkF m 199 #[.val (.int p0), .val (.int p1), .val (.int p2), .val (.int a), .val (.int b0), .val (.int b1), .val (.int tot), .val (.ref b6), .val (.int v66_0), .val (.int r15), .val (.int r24), .val (.int r37), .val (.int r54), .val (.int r63), .val (.int r79), .unset, .unset, .unset] [(.int r79)])) _
        refine XS.iconst X78.here hx rfl (hb hby at_199) ?_
        show Steps p.tables e below (T78.setTop (mkF m 200 #[.val (.int p0), .val (.int p1), .val (.int p2), .val (.int a), .val (.int b0), .val (.int b1), .val (.int tot), .val (.ref b6), .val (.int v66_0), .val (.int r15), .val (.int r24), .val (.int r37), .val (.int r54), .val (.int r63), .val (.int r79), .unset, .unset, .unset] [(.int (1 : Int32)), (.int r79)])) _
        refine XS.iload X78.here hx rfl (hb hby at_200) rfl ?_
        show Steps p.tables e below (T78.setTop (mkF m 202 #[.val (.int p0), .val (.int p1), .val (.int p2), .val (.int a), .val (.int b0), .val (.int b1), .val (.int tot), .val (.ref b6), .val (.int v66_0), .val (.int r15), .val (.int r24), .val (.int r37), .val (.int r54), .val (.int r63), .val (.int r79), .unset, .unset, .unset] [(.int tot), (.int (1 : Int32)), (.int r79)])) _
        exact Steps.refl _)
      have Z_85 : n0 ≤ T78.heap.size := (Nat.le_trans Z_77 Kp78.1)
      obtain ⟨_, _, ⟨T86, L86, k86, n86⟩, -, X86, ⟨Lc86, hQ86, l86, y86, z86⟩, st86⟩ := Jvm.LawKit.callS X78 hx (y := (⟨"com/example/futures_from_states/futuresfromstates/model/ChoicesNextPinLaw", "notLast", "(II)Z"⟩ : MethodName)) hown (mvT hZ (hw _ (List.mem_of_getElem? (i := 32) rfl))) (mvT hZ (hw _ (List.mem_of_getElem? (i := 33) rfl))) (mvT hZ (hw _ (List.mem_of_getElem? (i := 25) rfl))) (mvT hZ (hw _ (List.mem_of_getElem? (i := 34) rfl))) (by decide) (backOf (W := 1) (rm6 l Z a0 hw [] (1 : Int32) tot T78.heap n0 Z_85 (own_tot ha hb0 hb1 htot)) hZ (hw _ (List.mem_of_getElem? (i := 34) rfl)) (hw _ (List.mem_of_getElem? (i := 25) rfl)) (by decide) (by decide)) (g := (mkF m 202 #[.val (.int p0), .val (.int p1), .val (.int p2), .val (.int a), .val (.int b0), .val (.int b1), .val (.int tot), .val (.ref b6), .val (.int v66_0), .val (.int r15), .val (.int r24), .val (.int r37), .val (.int r54), .val (.int r63), .val (.int r79), .unset, .unset, .unset] [(.int tot), (.int (1 : Int32)), (.int r79)])) rfl (by rw [hml]; rfl) (argsL := [(.int (1 : Int32)), (.int tot)]) (rest := [(.int r79)]) (lenOf pd_4 rfl) rfl (by show 2 * 0 + _ ≤ _; exact Nat.le_of_eq rfl) (hb hby at_202) (fun _ _ => ⟨rfl, rfl, (by decide : 3 + 0 ≤ _), (by decide : 36 + 0 ≤ _)⟩)
      dsimp only [Pt.U, Pt.locs, Pt.cells, Pt.slots] at X86 l86 y86 z86 st86 hQ86
      subst l86 y86 z86
      obtain ⟨rfl, N86, eh86⟩ := hQ86
      have N86' := Fr.app N78' N86
      have K88 : Steps p.tables e below _ (T86.setTop (mkF m 205 #[.val (.int p0), .val (.int p1), .val (.int p2), .val (.int a), .val (.int b0), .val (.int b1), .val (.int tot), .val (.ref b6), .val (.int v66_0), .val (.int r15), .val (.int r24), .val (.int r37), .val (.int r54), .val (.int r63), .val (.int r79), .unset, .unset, .unset] [(.int ((if ((1 : Int32) % tot) = (tot - (1 : Int32)) then (0 : Int32) else (1 : Int32)) &&& 1)), (.int r79)])) := K84.trans (st86 _ (Steps.refl _))
      obtain ⟨r87, hr87⟩ : ∃ z : Int32, ((if ((1 : Int32) % tot) = (tot - (1 : Int32)) then (0 : Int32) else (1 : Int32)) &&& 1) = z := ⟨_, rfl⟩
      rw [hr87] at K88
      by_cases hc205 : r79 = r87
      · have K89 : Steps p.tables e below _ (T86.setTop (mkF m 213 #[.val (.int p0), .val (.int p1), .val (.int p2), .val (.int a), .val (.int b0), .val (.int b1), .val (.int tot), .val (.ref b6), .val (.int v66_0), .val (.int r15), .val (.int r24), .val (.int r37), .val (.int r54), .val (.int r63), .val (.int r79), .unset, .unset, .unset] [(.int (1 : Int32))])) := K88.trans (by
          show Steps p.tables e below (T86.setTop (mkF m 205 #[.val (.int p0), .val (.int p1), .val (.int p2), .val (.int a), .val (.int b0), .val (.int b1), .val (.int tot), .val (.ref b6), .val (.int v66_0), .val (.int r15), .val (.int r24), .val (.int r37), .val (.int r54), .val (.int r63), .val (.int r79), .unset, .unset, .unset] [(.int r87), (.int r79)])) _
          refine XS.icmpNo X86.here hx rfl (hb hby at_205) rfl (teq hc205).2 ?_
          show Steps p.tables e below (T86.setTop (mkF m 208 #[.val (.int p0), .val (.int p1), .val (.int p2), .val (.int a), .val (.int b0), .val (.int b1), .val (.int tot), .val (.ref b6), .val (.int v66_0), .val (.int r15), .val (.int r24), .val (.int r37), .val (.int r54), .val (.int r63), .val (.int r79), .unset, .unset, .unset] [])) _
          refine XS.iconst X86.here hx rfl (hb hby at_208) ?_
          show Steps p.tables e below (T86.setTop (mkF m 209 #[.val (.int p0), .val (.int p1), .val (.int p2), .val (.int a), .val (.int b0), .val (.int b1), .val (.int tot), .val (.ref b6), .val (.int v66_0), .val (.int r15), .val (.int r24), .val (.int r37), .val (.int r54), .val (.int r63), .val (.int r79), .unset, .unset, .unset] [(.int (1 : Int32))])) _
          refine XS.goto X86.here hx rfl (pc0 := 209) (pc' := 213) rfl (hb hby at_209) (by decide) (by decide) ?_
          show Steps p.tables e below (T86.setTop (mkF m 213 #[.val (.int p0), .val (.int p1), .val (.int p2), .val (.int a), .val (.int b0), .val (.int b1), .val (.int tot), .val (.ref b6), .val (.int v66_0), .val (.int r15), .val (.int r24), .val (.int r37), .val (.int r54), .val (.int r63), .val (.int r79), .unset, .unset, .unset] [(.int (1 : Int32))])) _
          exact Steps.refl _)
        subst hr87
        exact ⟨T86, _, (1 : Int32), X86, eh86, N86', (by rw [if_neg hc194, if_pos hc205]), K89⟩
      · have K90 : Steps p.tables e below _ (T86.setTop (mkF m 213 #[.val (.int p0), .val (.int p1), .val (.int p2), .val (.int a), .val (.int b0), .val (.int b1), .val (.int tot), .val (.ref b6), .val (.int v66_0), .val (.int r15), .val (.int r24), .val (.int r37), .val (.int r54), .val (.int r63), .val (.int r79), .unset, .unset, .unset] [(.int (0 : Int32))])) := K88.trans (by
          show Steps p.tables e below (T86.setTop (mkF m 205 #[.val (.int p0), .val (.int p1), .val (.int p2), .val (.int a), .val (.int b0), .val (.int b1), .val (.int tot), .val (.ref b6), .val (.int v66_0), .val (.int r15), .val (.int r24), .val (.int r37), .val (.int r54), .val (.int r63), .val (.int r79), .unset, .unset, .unset] [(.int r87), (.int r79)])) _
          refine XS.icmpYes X86.here hx rfl (pc0 := 205) (pc' := 212) rfl (hb hby at_205) rfl (feq hc205).2 (by decide) (by decide) ?_
          show Steps p.tables e below (T86.setTop (mkF m 212 #[.val (.int p0), .val (.int p1), .val (.int p2), .val (.int a), .val (.int b0), .val (.int b1), .val (.int tot), .val (.ref b6), .val (.int v66_0), .val (.int r15), .val (.int r24), .val (.int r37), .val (.int r54), .val (.int r63), .val (.int r79), .unset, .unset, .unset] [])) _
          refine XS.iconst X86.here hx rfl (hb hby at_212) ?_
          show Steps p.tables e below (T86.setTop (mkF m 213 #[.val (.int p0), .val (.int p1), .val (.int p2), .val (.int a), .val (.int b0), .val (.int b1), .val (.int tot), .val (.ref b6), .val (.int v66_0), .val (.int r15), .val (.int r24), .val (.int r37), .val (.int r54), .val (.int r63), .val (.int r79), .unset, .unset, .unset] [(.int (0 : Int32))])) _
          exact Steps.refl _)
        subst hr87
        exact ⟨T86, _, (0 : Int32), X86, eh86, N86', (by rw [if_neg hc194, if_neg hc205]), K90⟩
  have K91 := K81.trans S82
  have K92 : Steps p.tables e below _ (T82.setTop (mkF m 218 #[.val (.int p0), .val (.int p1), .val (.int p2), .val (.int a), .val (.int b0), .val (.int b1), .val (.int tot), .val (.ref b6), .val (.int v82_0), .val (.int r15), .val (.int r24), .val (.int r37), .val (.int r54), .val (.int r63), .val (.int r79), .unset, .unset, .unset] [(.int a), (.ref b6)])) := K91.trans (by
    show Steps p.tables e below (T82.setTop (mkF m 213 #[.val (.int p0), .val (.int p1), .val (.int p2), .val (.int a), .val (.int b0), .val (.int b1), .val (.int tot), .val (.ref b6), .val (.int v66_0), .val (.int r15), .val (.int r24), .val (.int r37), .val (.int r54), .val (.int r63), .val (.int r79), .unset, .unset, .unset] [(.int v82_0)])) _
    refine XS.istore X82.here hx rfl (hb hby at_213) rfl (l' := #[.val (.int p0), .val (.int p1), .val (.int p2), .val (.int a), .val (.int b0), .val (.int b1), .val (.int tot), .val (.ref b6), .val (.int v82_0), .val (.int r15), .val (.int r24), .val (.int r37), .val (.int r54), .val (.int r63), .val (.int r79), .unset, .unset, .unset]) rfl ?_
    show Steps p.tables e below (T82.setTop (mkF m 215 #[.val (.int p0), .val (.int p1), .val (.int p2), .val (.int a), .val (.int b0), .val (.int b1), .val (.int tot), .val (.ref b6), .val (.int v82_0), .val (.int r15), .val (.int r24), .val (.int r37), .val (.int r54), .val (.int r63), .val (.int r79), .unset, .unset, .unset] [])) _
    refine XS.aload X82.here hx rfl (hb hby at_215) rfl rfl ?_
    show Steps p.tables e below (T82.setTop (mkF m 217 #[.val (.int p0), .val (.int p1), .val (.int p2), .val (.int a), .val (.int b0), .val (.int b1), .val (.int tot), .val (.ref b6), .val (.int v82_0), .val (.int r15), .val (.int r24), .val (.int r37), .val (.int r54), .val (.int r63), .val (.int r79), .unset, .unset, .unset] [(.ref b6)])) _
    refine XS.iloadN X82.here hx rfl (hb hby at_217) rfl ?_
    show Steps p.tables e below (T82.setTop (mkF m 218 #[.val (.int p0), .val (.int p1), .val (.int p2), .val (.int a), .val (.int b0), .val (.int b1), .val (.int tot), .val (.ref b6), .val (.int v82_0), .val (.int r15), .val (.int r24), .val (.int r37), .val (.int r54), .val (.int r63), .val (.int r79), .unset, .unset, .unset] [(.int a), (.ref b6)])) _
    exact Steps.refl _)
  have Z_93 : n0 ≤ T78.heap.size := (Nat.le_trans Z_77 Kp78.1)
  have V_94 : Arv Z T78.heap b10_b12 k12_10 .int (16 : Int32) t22 (.int (0 : Int32)) := (Q62_6.keep Kp78 (ninS (Ne.symm ne_b6_b10_b12) (ninS (Ne.symm ne10_11) nin0)))
  obtain ⟨cq95, kq95, q95a, q95b, q95c⟩ := isOf hZ e82 Q78_0
  obtain ⟨_, _, ⟨T95, L95, k95, n95⟩, -, X95, ⟨Lc95, hQ95, l95, y95, z95⟩, st95⟩ := X82.virtualBack hx (y := (⟨"com/example/futures_from_states/futuresfromstates/model/Choices", "choose", "(I)I"⟩ : MethodName)) (z := (⟨"com/example/futures_from_states/futuresfromstates/model/Choices", "choose", "(I)I"⟩ : MethodName)) hown (mvT hZ (hw _ (List.mem_of_getElem? (i := 14) rfl))) (mvT hZ (hw _ (List.mem_of_getElem? (i := 15) rfl))) (notFace_of_selects (args := #[]) (mvT hZ (hw _ (List.mem_of_getElem? (i := 17) rfl)))) (mvT hZ (hw _ (List.mem_of_getElem? (i := 17) rfl))) (mvT hZ (hw _ (List.mem_of_getElem? (i := 16) rfl))) (by decide) (backOf (W := 0) (rm3 l Z a0 hw [] b6 a b10_b5 b10_b12 k5_10 k12_10 c23 t22 (0 : Int32) s23 T78.heap n0 Z_93 Q78_0 Q78_1 Q78_2 Q78_3 Q78_4 Q78_5 V_94 ne_b6_b10_b5 ne_b6_b10_b12 ne10_11 ge_b6 ge_b10_b5 ge_b10_b12 (own_w01 hI23)) hZ (hw _ (List.mem_of_getElem? (i := 18) rfl)) (hw _ (List.mem_of_getElem? (i := 2) rfl)) (by decide) (by decide)) q95a q95c (g := (mkF m 218 #[.val (.int p0), .val (.int p1), .val (.int p2), .val (.int a), .val (.int b0), .val (.int b1), .val (.int tot), .val (.ref b6), .val (.int v82_0), .val (.int r15), .val (.int r24), .val (.int r37), .val (.int r54), .val (.int r63), .val (.int r79), .unset, .unset, .unset] [(.int a), (.ref b6)])) rfl (by rw [hml]; rfl) K92 (argsL := [(.int a)]) (rest := []) (lenOf pd_1 rfl) rfl (by show 2 * 0 + _ ≤ _; exact Nat.le_of_eq rfl) (hb hby at_218) (fun _ _ => ⟨rfl, e82, (by decide : 3 + 0 ≤ _), (by decide : 36 + 0 ≤ _)⟩)
  dsimp only [Pt.U, Pt.locs, Pt.cells, Pt.slots] at X95 l95 y95 z95 st95 hQ95
  subst l95 y95 z95
  obtain ⟨rfl, N95, Kp95, Q95_0, Q95_1, Q95_2, Q95_3, Q95_4, Q95_5, Q95_6⟩ := hQ95
  have N95' := Fr.app N82 N95
  have K97 : Steps p.tables e below _ (T95.setTop (mkF m 221 #[.val (.int p0), .val (.int p1), .val (.int p2), .val (.int a), .val (.int b0), .val (.int b1), .val (.int tot), .val (.ref b6), .val (.int v82_0), .val (.int r15), .val (.int r24), .val (.int r37), .val (.int r54), .val (.int r63), .val (.int r79), .unset, .unset, .unset] [(.int (f_rm3 a c23 (0 : Int32) s23))])) := st95
  obtain ⟨r96, hr96⟩ : ∃ z : Int32, (f_rm3 a c23 (0 : Int32) s23) = z := ⟨_, rfl⟩
  rw [hr96] at K97
  obtain ⟨m31, hm31⟩ : ∃ z : Int32, (u_rm3_3 a (0 : Int32)) = z := ⟨_, rfl⟩
  rw [hm31] at Q95_3
  obtain ⟨s31, hs31⟩ : ∃ z : Int32, (u_rm3_4 a (0 : Int32) s23) = z := ⟨_, rfl⟩
  rw [hs31] at Q95_4
  obtain ⟨c31, hc31⟩ : ∃ z : List Value, (u_rm3_5 a c23 (0 : Int32) s23) = z := ⟨_, rfl⟩
  rw [hc31] at Q95_5
  obtain ⟨t31, ht31⟩ : ∃ z : List Value, (u_rm3_6 a t22 (0 : Int32) s23) = z := ⟨_, rfl⟩
  rw [ht31] at Q95_6
  have hI31 := own_ivc hI23 hm31 hc31 ht31
  have K98 : Steps p.tables e below _ (T95.setTop (mkF m 227 #[.val (.int p0), .val (.int p1), .val (.int p2), .val (.int a), .val (.int b0), .val (.int b1), .val (.int tot), .val (.ref b6), .val (.int v82_0), .val (.int r15), .val (.int r24), .val (.int r37), .val (.int r54), .val (.int r63), .val (.int r79), .val (.int r96), .unset, .unset] [(.int r96), (.ref b6)])) := K97.trans (by
    show Steps p.tables e below (T95.setTop (mkF m 221 #[.val (.int p0), .val (.int p1), .val (.int p2), .val (.int a), .val (.int b0), .val (.int b1), .val (.int tot), .val (.ref b6), .val (.int v82_0), .val (.int r15), .val (.int r24), .val (.int r37), .val (.int r54), .val (.int r63), .val (.int r79), .unset, .unset, .unset] [(.int r96)])) _
    refine XS.istore X95.here hx rfl (hb hby at_221) rfl (l' := #[.val (.int p0), .val (.int p1), .val (.int p2), .val (.int a), .val (.int b0), .val (.int b1), .val (.int tot), .val (.ref b6), .val (.int v82_0), .val (.int r15), .val (.int r24), .val (.int r37), .val (.int r54), .val (.int r63), .val (.int r79), .val (.int r96), .unset, .unset]) rfl ?_
    show Steps p.tables e below (T95.setTop (mkF m 223 #[.val (.int p0), .val (.int p1), .val (.int p2), .val (.int a), .val (.int b0), .val (.int b1), .val (.int tot), .val (.ref b6), .val (.int v82_0), .val (.int r15), .val (.int r24), .val (.int r37), .val (.int r54), .val (.int r63), .val (.int r79), .val (.int r96), .unset, .unset] [])) _
    refine XS.aload X95.here hx rfl (hb hby at_223) rfl rfl ?_
    show Steps p.tables e below (T95.setTop (mkF m 225 #[.val (.int p0), .val (.int p1), .val (.int p2), .val (.int a), .val (.int b0), .val (.int b1), .val (.int tot), .val (.ref b6), .val (.int v82_0), .val (.int r15), .val (.int r24), .val (.int r37), .val (.int r54), .val (.int r63), .val (.int r79), .val (.int r96), .unset, .unset] [(.ref b6)])) _
    refine XS.iload X95.here hx rfl (hb hby at_225) rfl ?_
    show Steps p.tables e below (T95.setTop (mkF m 227 #[.val (.int p0), .val (.int p1), .val (.int p2), .val (.int a), .val (.int b0), .val (.int b1), .val (.int tot), .val (.ref b6), .val (.int v82_0), .val (.int r15), .val (.int r24), .val (.int r37), .val (.int r54), .val (.int r63), .val (.int r79), .val (.int r96), .unset, .unset] [(.int r96), (.ref b6)])) _
    exact Steps.refl _)
  obtain ⟨v99_0, hv99_0, S99⟩ : ∃ (v99_0 : Int32), (if r96 = (0 : Int32) then b0 else b1) = v99_0 ∧ Steps p.tables e below (T95.setTop (mkF m 227 #[.val (.int p0), .val (.int p1), .val (.int p2), .val (.int a), .val (.int b0), .val (.int b1), .val (.int tot), .val (.ref b6), .val (.int v82_0), .val (.int r15), .val (.int r24), .val (.int r37), .val (.int r54), .val (.int r63), .val (.int r79), .val (.int r96), .unset, .unset] [(.int r96), (.ref b6)])) (T95.setTop (mkF m 237 #[.val (.int p0), .val (.int p1), .val (.int p2), .val (.int a), .val (.int b0), .val (.int b1), .val (.int tot), .val (.ref b6), .val (.int v82_0), .val (.int r15), .val (.int r24), .val (.int r37), .val (.int r54), .val (.int r63), .val (.int r79), .val (.int r96), .unset, .unset] [(.int v99_0), (.ref b6)])) := by
    have R99 := Steps.refl (tb := p.tables) (e := e) (below := below) (T95.setTop (mkF m 227 #[.val (.int p0), .val (.int p1), .val (.int p2), .val (.int a), .val (.int b0), .val (.int b1), .val (.int tot), .val (.ref b6), .val (.int v82_0), .val (.int r15), .val (.int r24), .val (.int r37), .val (.int r54), .val (.int r63), .val (.int r79), .val (.int r96), .unset, .unset] [(.int r96), (.ref b6)]))
    by_cases hc227 : r96 = (0 : Int32)
    · have K100 : Steps p.tables e below _ (T95.setTop (mkF m 237 #[.val (.int p0), .val (.int p1), .val (.int p2), .val (.int a), .val (.int b0), .val (.int b1), .val (.int tot), .val (.ref b6), .val (.int v82_0), .val (.int r15), .val (.int r24), .val (.int r37), .val (.int r54), .val (.int r63), .val (.int r79), .val (.int r96), .unset, .unset] [(.int b0), (.ref b6)])) := R99.trans (by
        show Steps p.tables e below (T95.setTop (mkF m 227 #[.val (.int p0), .val (.int p1), .val (.int p2), .val (.int a), .val (.int b0), .val (.int b1), .val (.int tot), .val (.ref b6), .val (.int v82_0), .val (.int r15), .val (.int r24), .val (.int r37), .val (.int r54), .val (.int r63), .val (.int r79), .val (.int r96), .unset, .unset] [(.int r96), (.ref b6)])) _
        refine XS.ifNo X95.here hx rfl (hb hby at_227) rfl ((if0 _ _).trans (teq hc227).2) ?_
        show Steps p.tables e below (T95.setTop (mkF m 230 #[.val (.int p0), .val (.int p1), .val (.int p2), .val (.int a), .val (.int b0), .val (.int b1), .val (.int tot), .val (.ref b6), .val (.int v82_0), .val (.int r15), .val (.int r24), .val (.int r37), .val (.int r54), .val (.int r63), .val (.int r79), .val (.int r96), .unset, .unset] [(.ref b6)])) _
        refine XS.iload X95.here hx rfl (hb hby at_230) rfl ?_
        show Steps p.tables e below (T95.setTop (mkF m 232 #[.val (.int p0), .val (.int p1), .val (.int p2), .val (.int a), .val (.int b0), .val (.int b1), .val (.int tot), .val (.ref b6), .val (.int v82_0), .val (.int r15), .val (.int r24), .val (.int r37), .val (.int r54), .val (.int r63), .val (.int r79), .val (.int r96), .unset, .unset] [(.int b0), (.ref b6)])) _
        refine XS.goto X95.here hx rfl (pc0 := 232) (pc' := 237) rfl (hb hby at_232) (by decide) (by decide) ?_
        show Steps p.tables e below (T95.setTop (mkF m 237 #[.val (.int p0), .val (.int p1), .val (.int p2), .val (.int a), .val (.int b0), .val (.int b1), .val (.int tot), .val (.ref b6), .val (.int v82_0), .val (.int r15), .val (.int r24), .val (.int r37), .val (.int r54), .val (.int r63), .val (.int r79), .val (.int r96), .unset, .unset] [(.int b0), (.ref b6)])) _
        exact Steps.refl _)
      exact ⟨b0, (by rw [if_pos hc227]), K100⟩
    · have K101 : Steps p.tables e below _ (T95.setTop (mkF m 237 #[.val (.int p0), .val (.int p1), .val (.int p2), .val (.int a), .val (.int b0), .val (.int b1), .val (.int tot), .val (.ref b6), .val (.int v82_0), .val (.int r15), .val (.int r24), .val (.int r37), .val (.int r54), .val (.int r63), .val (.int r79), .val (.int r96), .unset, .unset] [(.int b1), (.ref b6)])) := R99.trans (by
        show Steps p.tables e below (T95.setTop (mkF m 227 #[.val (.int p0), .val (.int p1), .val (.int p2), .val (.int a), .val (.int b0), .val (.int b1), .val (.int tot), .val (.ref b6), .val (.int v82_0), .val (.int r15), .val (.int r24), .val (.int r37), .val (.int r54), .val (.int r63), .val (.int r79), .val (.int r96), .unset, .unset] [(.int r96), (.ref b6)])) _
        refine XS.ifYes X95.here hx rfl (pc0 := 227) (pc' := 235) rfl (hb hby at_227) rfl ((if0 _ _).trans (feq hc227).2) (by decide) (by decide) ?_
        show Steps p.tables e below (T95.setTop (mkF m 235 #[.val (.int p0), .val (.int p1), .val (.int p2), .val (.int a), .val (.int b0), .val (.int b1), .val (.int tot), .val (.ref b6), .val (.int v82_0), .val (.int r15), .val (.int r24), .val (.int r37), .val (.int r54), .val (.int r63), .val (.int r79), .val (.int r96), .unset, .unset] [(.ref b6)])) _
        refine XS.iload X95.here hx rfl (hb hby at_235) rfl ?_
        show Steps p.tables e below (T95.setTop (mkF m 237 #[.val (.int p0), .val (.int p1), .val (.int p2), .val (.int a), .val (.int b0), .val (.int b1), .val (.int tot), .val (.ref b6), .val (.int v82_0), .val (.int r15), .val (.int r24), .val (.int r37), .val (.int r54), .val (.int r63), .val (.int r79), .val (.int r96), .unset, .unset] [(.int b1), (.ref b6)])) _
        exact Steps.refl _)
      exact ⟨b1, (by rw [if_neg hc227]), K101⟩
  have K102 := K98.trans S99
  have Z_103 : n0 ≤ T95.heap.size := (Nat.le_trans Z_93 Kp95.1)
  obtain ⟨cq104, kq104, q104a, q104b, q104c⟩ := isOf hZ rfl Q95_0
  obtain ⟨_, _, ⟨T104, L104, k104, n104⟩, -, X104, ⟨Lc104, hQ104, l104, y104, z104⟩, st104⟩ := X95.virtualBack hx (y := (⟨"com/example/futures_from_states/futuresfromstates/model/Choices", "choose", "(I)I"⟩ : MethodName)) (z := (⟨"com/example/futures_from_states/futuresfromstates/model/Choices", "choose", "(I)I"⟩ : MethodName)) hown (mvT hZ (hw _ (List.mem_of_getElem? (i := 14) rfl))) (mvT hZ (hw _ (List.mem_of_getElem? (i := 15) rfl))) (notFace_of_selects (args := #[]) (mvT hZ (hw _ (List.mem_of_getElem? (i := 17) rfl)))) (mvT hZ (hw _ (List.mem_of_getElem? (i := 17) rfl))) (mvT hZ (hw _ (List.mem_of_getElem? (i := 16) rfl))) (by decide) (backOf (W := 0) (rm3 l Z a0 hw [] b6 v99_0 b10_b5 b10_b12 k5_10 k12_10 c31 t31 m31 s31 T95.heap n0 Z_103 Q95_0 Q95_1 Q95_2 Q95_3 Q95_4 Q95_5 Q95_6 ne_b6_b10_b5 ne_b6_b10_b12 ne10_11 ge_b6 ge_b10_b5 ge_b10_b12 (hI31)) hZ (hw _ (List.mem_of_getElem? (i := 18) rfl)) (hw _ (List.mem_of_getElem? (i := 2) rfl)) (by decide) (by decide)) q104a q104c (g := (mkF m 237 #[.val (.int p0), .val (.int p1), .val (.int p2), .val (.int a), .val (.int b0), .val (.int b1), .val (.int tot), .val (.ref b6), .val (.int v82_0), .val (.int r15), .val (.int r24), .val (.int r37), .val (.int r54), .val (.int r63), .val (.int r79), .val (.int r96), .unset, .unset] [(.int v99_0), (.ref b6)])) rfl (by rw [hml]; rfl) K102 (argsL := [(.int v99_0)]) (rest := []) (lenOf pd_1 rfl) rfl (by show 2 * 0 + _ ≤ _; exact Nat.le_of_eq rfl) (hb hby at_237) (fun _ _ => ⟨rfl, rfl, (by decide : 3 + 0 ≤ _), (by decide : 36 + 0 ≤ _)⟩)
  dsimp only [Pt.U, Pt.locs, Pt.cells, Pt.slots] at X104 l104 y104 z104 st104 hQ104
  subst l104 y104 z104
  obtain ⟨rfl, N104, Kp104, Q104_0, Q104_1, Q104_2, Q104_3, Q104_4, Q104_5, Q104_6⟩ := hQ104
  have N104' := Fr.app N95' N104
  have K106 : Steps p.tables e below _ (T104.setTop (mkF m 240 #[.val (.int p0), .val (.int p1), .val (.int p2), .val (.int a), .val (.int b0), .val (.int b1), .val (.int tot), .val (.ref b6), .val (.int v82_0), .val (.int r15), .val (.int r24), .val (.int r37), .val (.int r54), .val (.int r63), .val (.int r79), .val (.int r96), .unset, .unset] [(.int (f_rm3 v99_0 c31 m31 s31))])) := st104
  obtain ⟨r105, hr105⟩ : ∃ z : Int32, (f_rm3 v99_0 c31 m31 s31) = z := ⟨_, rfl⟩
  rw [hr105] at K106
  obtain ⟨m32, hm32⟩ : ∃ z : Int32, (u_rm3_3 v99_0 m31) = z := ⟨_, rfl⟩
  rw [hm32] at Q104_3
  obtain ⟨s32, hs32⟩ : ∃ z : Int32, (u_rm3_4 v99_0 m31 s31) = z := ⟨_, rfl⟩
  rw [hs32] at Q104_4
  obtain ⟨c32, hc32⟩ : ∃ z : List Value, (u_rm3_5 v99_0 c31 m31 s31) = z := ⟨_, rfl⟩
  rw [hc32] at Q104_5
  obtain ⟨t32, ht32⟩ : ∃ z : List Value, (u_rm3_6 v99_0 t31 m31 s31) = z := ⟨_, rfl⟩
  rw [ht32] at Q104_6
  have hI32 := own_ivc hI31 hm32 hc32 ht32
  have K107 : Steps p.tables e below _ (T104.setTop (mkF m 244 #[.val (.int p0), .val (.int p1), .val (.int p2), .val (.int a), .val (.int b0), .val (.int b1), .val (.int tot), .val (.ref b6), .val (.int v82_0), .val (.int r15), .val (.int r24), .val (.int r37), .val (.int r54), .val (.int r63), .val (.int r79), .val (.int r96), .val (.int r105), .unset] [(.int v82_0)])) := K106.trans (by
    show Steps p.tables e below (T104.setTop (mkF m 240 #[.val (.int p0), .val (.int p1), .val (.int p2), .val (.int a), .val (.int b0), .val (.int b1), .val (.int tot), .val (.ref b6), .val (.int v82_0), .val (.int r15), .val (.int r24), .val (.int r37), .val (.int r54), .val (.int r63), .val (.int r79), .val (.int r96), .unset, .unset] [(.int r105)])) _
    refine XS.istore X104.here hx rfl (hb hby at_240) rfl (l' := #[.val (.int p0), .val (.int p1), .val (.int p2), .val (.int a), .val (.int b0), .val (.int b1), .val (.int tot), .val (.ref b6), .val (.int v82_0), .val (.int r15), .val (.int r24), .val (.int r37), .val (.int r54), .val (.int r63), .val (.int r79), .val (.int r96), .val (.int r105), .unset]) rfl ?_
    show Steps p.tables e below (T104.setTop (mkF m 242 #[.val (.int p0), .val (.int p1), .val (.int p2), .val (.int a), .val (.int b0), .val (.int b1), .val (.int tot), .val (.ref b6), .val (.int v82_0), .val (.int r15), .val (.int r24), .val (.int r37), .val (.int r54), .val (.int r63), .val (.int r79), .val (.int r96), .val (.int r105), .unset] [])) _
    refine XS.iload X104.here hx rfl (hb hby at_242) rfl ?_
    show Steps p.tables e below (T104.setTop (mkF m 244 #[.val (.int p0), .val (.int p1), .val (.int p2), .val (.int a), .val (.int b0), .val (.int b1), .val (.int tot), .val (.ref b6), .val (.int v82_0), .val (.int r15), .val (.int r24), .val (.int r37), .val (.int r54), .val (.int r63), .val (.int r79), .val (.int r96), .val (.int r105), .unset] [(.int v82_0)])) _
    exact Steps.refl _)
  obtain ⟨T108, L108, v108_0, X108, e108, N108, hv108_0, S108⟩ : ∃ (T108 : State) (L108 : List Loc) (v108_0 : Int32), Stand p l e room_1 s m #[(.int p0), (.int p1), (.int p2)] below meth c T108 L108 3 36 ∧ T108.heap = T104.heap ∧ Fr n0 L108 ∧ (if v82_0 = (0 : Int32) then (0 : Int32) else (if ((if r96 = (if ((2 : Int32) % tot) < b0 then (0 : Int32) else ((1 : Int32) + ((((2 : Int32) % tot) - b0) / b1))) then (if r105 = (if ((2 : Int32) % tot) < b0 then ((2 : Int32) % tot) else ((((2 : Int32) % tot) - b0) % b1)) then (1 : Int32) else (0 : Int32)) else (0 : Int32)) &&& 1) = (0 : Int32) then (0 : Int32) else (1 : Int32))) = v108_0 ∧ Steps p.tables e below (T104.setTop (mkF m 244 #[.val (.int p0), .val (.int p1), .val (.int p2), .val (.int a), .val (.int b0), .val (.int b1), .val (.int tot), .val (.ref b6), .val (.int v82_0), .val (.int r15), .val (.int r24), .val (.int r37), .val (.int r54), .val (.int r63), .val (.int r79), .val (.int r96), .val (.int r105), .unset] [(.int v82_0)])) (T108.setTop (mkF m 269 #[.val (.int p0), .val (.int p1), .val (.int p2), .val (.int a), .val (.int b0), .val (.int b1), .val (.int tot), .val (.ref b6), .val (.int v82_0), .val (.int r15), .val (.int r24), .val (.int r37), .val (.int r54), .val (.int r63), .val (.int r79), .val (.int r96), .val (.int r105), .unset] [(.int v108_0)])) := by
    have R108 := Steps.refl (tb := p.tables) (e := e) (below := below) (T104.setTop (mkF m 244 #[.val (.int p0), .val (.int p1), .val (.int p2), .val (.int a), .val (.int b0), .val (.int b1), .val (.int tot), .val (.ref b6), .val (.int v82_0), .val (.int r15), .val (.int r24), .val (.int r37), .val (.int r54), .val (.int r63), .val (.int r79), .val (.int r96), .val (.int r105), .unset] [(.int v82_0)]))
    by_cases hc244 : v82_0 = (0 : Int32)
    · have K109 : Steps p.tables e below _ (T104.setTop (mkF m 269 #[.val (.int p0), .val (.int p1), .val (.int p2), .val (.int a), .val (.int b0), .val (.int b1), .val (.int tot), .val (.ref b6), .val (.int v82_0), .val (.int r15), .val (.int r24), .val (.int r37), .val (.int r54), .val (.int r63), .val (.int r79), .val (.int r96), .val (.int r105), .unset] [(.int (0 : Int32))])) := R108.trans (by
        show Steps p.tables e below (T104.setTop (mkF m 244 #[.val (.int p0), .val (.int p1), .val (.int p2), .val (.int a), .val (.int b0), .val (.int b1), .val (.int tot), .val (.ref b6), .val (.int v82_0), .val (.int r15), .val (.int r24), .val (.int r37), .val (.int r54), .val (.int r63), .val (.int r79), .val (.int r96), .val (.int r105), .unset] [(.int v82_0)])) _
        refine XS.ifYes X104.here hx rfl (pc0 := 244) (pc' := 268) rfl (hb hby at_244) rfl ((if0 _ _).trans (teq hc244).1) (by decide) (by decide) ?_
        show Steps p.tables e below (T104.setTop (mkF m 268 #[.val (.int p0), .val (.int p1), .val (.int p2), .val (.int a), .val (.int b0), .val (.int b1), .val (.int tot), .val (.ref b6), .val (.int v82_0), .val (.int r15), .val (.int r24), .val (.int r37), .val (.int r54), .val (.int r63), .val (.int r79), .val (.int r96), .val (.int r105), .unset] [])) _
        refine XS.iconst X104.here hx rfl (hb hby at_268) ?_
        show Steps p.tables e below (T104.setTop (mkF m 269 #[.val (.int p0), .val (.int p1), .val (.int p2), .val (.int a), .val (.int b0), .val (.int b1), .val (.int tot), .val (.ref b6), .val (.int v82_0), .val (.int r15), .val (.int r24), .val (.int r37), .val (.int r54), .val (.int r63), .val (.int r79), .val (.int r96), .val (.int r105), .unset] [(.int (0 : Int32))])) _
        exact Steps.refl _)
      exact ⟨T104, _, (0 : Int32), X104, rfl, N104', (by rw [if_pos hc244]), K109⟩
    · have K110 : Steps p.tables e below _ (T104.setTop (mkF m 258 #[.val (.int p0), .val (.int p1), .val (.int p2), .val (.int a), .val (.int b0), .val (.int b1), .val (.int tot), .val (.ref b6), .val (.int v82_0), .val (.int r15), .val (.int r24), .val (.int r37), .val (.int r54), .val (.int r63), .val (.int r79), .val (.int r96), .val (.int r105), .unset] [(.int tot), (.int b1), (.int b0), (.int r105), (.int r96), (.int (2 : Int32))])) := R108.trans (by
        show Steps p.tables e below (T104.setTop (mkF m 244 #[.val (.int p0), .val (.int p1), .val (.int p2), .val (.int a), .val (.int b0), .val (.int b1), .val (.int tot), .val (.ref b6), .val (.int v82_0), .val (.int r15), .val (.int r24), .val (.int r37), .val (.int r54), .val (.int r63), .val (.int r79), .val (.int r96), .val (.int r105), .unset] [(.int v82_0)])) _
        refine XS.ifNo X104.here hx rfl (hb hby at_244) rfl ((if0 _ _).trans (feq hc244).1) ?_
        show Steps p.tables e below (T104.setTop (mkF m 247 #[.val (.int p0), .val (.int p1), .val (.int p2), .val (.int a), .val (.int b0), .val (.int b1), .val (.int tot), .val (.ref b6), .val (.int v82_0), .val (.int r15), .val (.int r24), .val (.int r37), .val (.int r54), .val (.int r63), .val (.int r79), .val (.int r96), .val (.int r105), .unset] [])) _
        refine XS.iconst X104.here hx rfl (hb hby at_247) ?_
        show Steps p.tables e below (T104.setTop (mkF m 248 #[.val (.int p0), .val (.int p1), .val (.int p2), .val (.int a), .val (.int b0), .val (.int b1), .val (.int tot), .val (.ref b6), .val (.int v82_0), .val (.int r15), .val (.int r24), .val (.int r37), .val (.int r54), .val (.int r63), .val (.int r79), .val (.int r96), .val (.int r105), .unset] [(.int (2 : Int32))])) _
        refine XS.iload X104.here hx rfl (hb hby at_248) rfl ?_
        show Steps p.tables e below (T104.setTop (mkF m 250 #[.val (.int p0), .val (.int p1), .val (.int p2), .val (.int a), .val (.int b0), .val (.int b1), .val (.int tot), .val (.ref b6), .val (.int v82_0), .val (.int r15), .val (.int r24), .val (.int r37), .val (.int r54), .val (.int r63), .val (.int r79), .val (.int r96), .val (.int r105), .unset] [(.int r96), (.int (2 : Int32))])) _
        refine XS.iload X104.here hx rfl (hb hby at_250) rfl ?_
        show Steps p.tables e below (T104.setTop (mkF m 252 #[.val (.int p0), .val (.int p1), .val (.int p2), .val (.int a), .val (.int b0), .val (.int b1), .val (.int tot), .val (.ref b6), .val (.int v82_0), .val (.int r15), .val (.int r24), .val (.int r37), .val (.int r54), .val (.int r63), .val (.int r79), .val (.int r96), .val (.int r105), .unset] [(.int r105), (.int r96), (.int (2 : Int32))])) _
        refine XS.iload X104.here hx rfl (hb hby at_252) rfl ?_
        show Steps p.tables e below (T104.setTop (mkF m 254 #[.val (.int p0), .val (.int p1), .val (.int p2), .val (.int a), .val (.int b0), .val (.int b1), .val (.int tot), .val (.ref b6), .val (.int v82_0), .val (.int r15), .val (.int r24), .val (.int r37), .val (.int r54), .val (.int r63), .val (.int r79), .val (.int r96), .val (.int r105), .unset] [(.int b0), (.int r105), (.int r96), (.int (2 : Int32))])) _
        refine XS.iload X104.here hx rfl (hb hby at_254) rfl ?_
        show Steps p.tables e below (T104.setTop (mkF m 256 #[.val (.int p0), .val (.int p1), .val (.int p2), .val (.int a), .val (.int b0), .val (.int b1), .val (.int tot), .val (.ref b6), .val (.int v82_0), .val (.int r15), .val (.int r24), .val (.int r37), .val (.int r54), .val (.int r63), .val (.int r79), .val (.int r96), .val (.int r105), .unset] [(.int b1), (.int b0), (.int r105), (.int r96), (.int (2 : Int32))])) _
        refine XS.iload X104.here hx rfl (hb hby at_256) rfl ?_
        show Steps p.tables e below (T104.setTop (mkF m 258 #[.val (.int p0), .val (.int p1), .val (.int p2), .val (.int a), .val (.int b0), .val (.int b1), .val (.int tot), .val (.ref b6), .val (.int v82_0), .val (.int r15), .val (.int r24), .val (.int r37), .val (.int r54), .val (.int r63), .val (.int r79), .val (.int r96), .val (.int r105), .unset] [(.int tot), (.int b1), (.int b0), (.int r105), (.int r96), (.int (2 : Int32))])) _
        exact Steps.refl _)
      have Z_111 : n0 ≤ T104.heap.size := (Nat.le_trans Z_103 Kp104.1)
      obtain ⟨_, _, ⟨T112, L112, k112, n112⟩, -, X112, ⟨Lc112, hQ112, l112, y112, z112⟩, st112⟩ := Jvm.LawKit.callS X104 hx (y := (⟨"com/example/futures_from_states/futuresfromstates/model/ChoicesNextPinLaw", "fits", "(IIIIII)Z"⟩ : MethodName)) hown (mvT hZ (hw _ (List.mem_of_getElem? (i := 23) rfl))) (mvT hZ (hw _ (List.mem_of_getElem? (i := 24) rfl))) (mvT hZ (hw _ (List.mem_of_getElem? (i := 25) rfl))) (mvT hZ (hw _ (List.mem_of_getElem? (i := 26) rfl))) (by decide) (backOf (W := 0) (rm4 l Z a0 hw [] (2 : Int32) r96 r105 b0 b1 tot T104.heap n0 Z_111 (own_tot ha hb0 hb1 htot) (own_pos hb1)) hZ (hw _ (List.mem_of_getElem? (i := 26) rfl)) (hw _ (List.mem_of_getElem? (i := 25) rfl)) (by decide) (by decide)) (g := (mkF m 258 #[.val (.int p0), .val (.int p1), .val (.int p2), .val (.int a), .val (.int b0), .val (.int b1), .val (.int tot), .val (.ref b6), .val (.int v82_0), .val (.int r15), .val (.int r24), .val (.int r37), .val (.int r54), .val (.int r63), .val (.int r79), .val (.int r96), .val (.int r105), .unset] [(.int tot), (.int b1), (.int b0), (.int r105), (.int r96), (.int (2 : Int32))])) rfl (by rw [hml]; rfl) (argsL := [(.int (2 : Int32)), (.int r96), (.int r105), (.int b0), (.int b1), (.int tot)]) (rest := []) (lenOf pd_2 rfl) rfl (by show 2 * 0 + _ ≤ _; exact Nat.le_of_eq rfl) (hb hby at_258) (fun _ _ => ⟨rfl, rfl, (by decide : 3 + 0 ≤ _), (by decide : 36 + 0 ≤ _)⟩)
      dsimp only [Pt.U, Pt.locs, Pt.cells, Pt.slots] at X112 l112 y112 z112 st112 hQ112
      subst l112 y112 z112
      obtain ⟨rfl, N112, eh112⟩ := hQ112
      have N112' := Fr.app N104' N112
      have K114 : Steps p.tables e below _ (T112.setTop (mkF m 261 #[.val (.int p0), .val (.int p1), .val (.int p2), .val (.int a), .val (.int b0), .val (.int b1), .val (.int tot), .val (.ref b6), .val (.int v82_0), .val (.int r15), .val (.int r24), .val (.int r37), .val (.int r54), .val (.int r63), .val (.int r79), .val (.int r96), .val (.int r105), .unset] [(.int ((if r96 = (if ((2 : Int32) % tot) < b0 then (0 : Int32) else ((1 : Int32) + ((((2 : Int32) % tot) - b0) / b1))) then (if r105 = (if ((2 : Int32) % tot) < b0 then ((2 : Int32) % tot) else ((((2 : Int32) % tot) - b0) % b1)) then (1 : Int32) else (0 : Int32)) else (0 : Int32)) &&& 1))])) := K110.trans (st112 _ (Steps.refl _))
      obtain ⟨r113, hr113⟩ : ∃ z : Int32, ((if r96 = (if ((2 : Int32) % tot) < b0 then (0 : Int32) else ((1 : Int32) + ((((2 : Int32) % tot) - b0) / b1))) then (if r105 = (if ((2 : Int32) % tot) < b0 then ((2 : Int32) % tot) else ((((2 : Int32) % tot) - b0) % b1)) then (1 : Int32) else (0 : Int32)) else (0 : Int32)) &&& 1) = z := ⟨_, rfl⟩
      rw [hr113] at K114
      by_cases hc261 : r113 = (0 : Int32)
      · have K115 : Steps p.tables e below _ (T112.setTop (mkF m 269 #[.val (.int p0), .val (.int p1), .val (.int p2), .val (.int a), .val (.int b0), .val (.int b1), .val (.int tot), .val (.ref b6), .val (.int v82_0), .val (.int r15), .val (.int r24), .val (.int r37), .val (.int r54), .val (.int r63), .val (.int r79), .val (.int r96), .val (.int r105), .unset] [(.int (0 : Int32))])) := K114.trans (by
          show Steps p.tables e below (T112.setTop (mkF m 261 #[.val (.int p0), .val (.int p1), .val (.int p2), .val (.int a), .val (.int b0), .val (.int b1), .val (.int tot), .val (.ref b6), .val (.int v82_0), .val (.int r15), .val (.int r24), .val (.int r37), .val (.int r54), .val (.int r63), .val (.int r79), .val (.int r96), .val (.int r105), .unset] [(.int r113)])) _
          refine XS.ifYes X112.here hx rfl (pc0 := 261) (pc' := 268) rfl (hb hby at_261) rfl ((if0 _ _).trans (teq hc261).1) (by decide) (by decide) ?_
          show Steps p.tables e below (T112.setTop (mkF m 268 #[.val (.int p0), .val (.int p1), .val (.int p2), .val (.int a), .val (.int b0), .val (.int b1), .val (.int tot), .val (.ref b6), .val (.int v82_0), .val (.int r15), .val (.int r24), .val (.int r37), .val (.int r54), .val (.int r63), .val (.int r79), .val (.int r96), .val (.int r105), .unset] [])) _
          refine XS.iconst X112.here hx rfl (hb hby at_268) ?_
          show Steps p.tables e below (T112.setTop (mkF m 269 #[.val (.int p0), .val (.int p1), .val (.int p2), .val (.int a), .val (.int b0), .val (.int b1), .val (.int tot), .val (.ref b6), .val (.int v82_0), .val (.int r15), .val (.int r24), .val (.int r37), .val (.int r54), .val (.int r63), .val (.int r79), .val (.int r96), .val (.int r105), .unset] [(.int (0 : Int32))])) _
          exact Steps.refl _)
        subst hr113
        exact ⟨T112, _, (0 : Int32), X112, eh112, N112', (by rw [if_neg hc244, if_pos hc261]), K115⟩
      · have K116 : Steps p.tables e below _ (T112.setTop (mkF m 269 #[.val (.int p0), .val (.int p1), .val (.int p2), .val (.int a), .val (.int b0), .val (.int b1), .val (.int tot), .val (.ref b6), .val (.int v82_0), .val (.int r15), .val (.int r24), .val (.int r37), .val (.int r54), .val (.int r63), .val (.int r79), .val (.int r96), .val (.int r105), .unset] [(.int (1 : Int32))])) := K114.trans (by
          show Steps p.tables e below (T112.setTop (mkF m 261 #[.val (.int p0), .val (.int p1), .val (.int p2), .val (.int a), .val (.int b0), .val (.int b1), .val (.int tot), .val (.ref b6), .val (.int v82_0), .val (.int r15), .val (.int r24), .val (.int r37), .val (.int r54), .val (.int r63), .val (.int r79), .val (.int r96), .val (.int r105), .unset] [(.int r113)])) _
          refine XS.ifNo X112.here hx rfl (hb hby at_261) rfl ((if0 _ _).trans (feq hc261).1) ?_
          show Steps p.tables e below (T112.setTop (mkF m 264 #[.val (.int p0), .val (.int p1), .val (.int p2), .val (.int a), .val (.int b0), .val (.int b1), .val (.int tot), .val (.ref b6), .val (.int v82_0), .val (.int r15), .val (.int r24), .val (.int r37), .val (.int r54), .val (.int r63), .val (.int r79), .val (.int r96), .val (.int r105), .unset] [])) _
          refine XS.iconst X112.here hx rfl (hb hby at_264) ?_
          show Steps p.tables e below (T112.setTop (mkF m 265 #[.val (.int p0), .val (.int p1), .val (.int p2), .val (.int a), .val (.int b0), .val (.int b1), .val (.int tot), .val (.ref b6), .val (.int v82_0), .val (.int r15), .val (.int r24), .val (.int r37), .val (.int r54), .val (.int r63), .val (.int r79), .val (.int r96), .val (.int r105), .unset] [(.int (1 : Int32))])) _
          refine XS.goto X112.here hx rfl (pc0 := 265) (pc' := 269) rfl (hb hby at_265) (by decide) (by decide) ?_
          show Steps p.tables e below (T112.setTop (mkF m 269 #[.val (.int p0), .val (.int p1), .val (.int p2), .val (.int a), .val (.int b0), .val (.int b1), .val (.int tot), .val (.ref b6), .val (.int v82_0), .val (.int r15), .val (.int r24), .val (.int r37), .val (.int r54), .val (.int r63), .val (.int r79), .val (.int r96), .val (.int r105), .unset] [(.int (1 : Int32))])) _
          exact Steps.refl _)
        subst hr113
        exact ⟨T112, _, (1 : Int32), X112, eh112, N112', (by rw [if_neg hc244, if_neg hc261]), K116⟩
  have K117 := K107.trans S108
  have K118 : Steps p.tables e below _ (T108.setTop (mkF m 273 #[.val (.int p0), .val (.int p1), .val (.int p2), .val (.int a), .val (.int b0), .val (.int b1), .val (.int tot), .val (.ref b6), .val (.int v108_0), .val (.int r15), .val (.int r24), .val (.int r37), .val (.int r54), .val (.int r63), .val (.int r79), .val (.int r96), .val (.int r105), .unset] [(.ref b6)])) := K117.trans (by
    show Steps p.tables e below (T108.setTop (mkF m 269 #[.val (.int p0), .val (.int p1), .val (.int p2), .val (.int a), .val (.int b0), .val (.int b1), .val (.int tot), .val (.ref b6), .val (.int v82_0), .val (.int r15), .val (.int r24), .val (.int r37), .val (.int r54), .val (.int r63), .val (.int r79), .val (.int r96), .val (.int r105), .unset] [(.int v108_0)])) _
    refine XS.istore X108.here hx rfl (hb hby at_269) rfl (l' := #[.val (.int p0), .val (.int p1), .val (.int p2), .val (.int a), .val (.int b0), .val (.int b1), .val (.int tot), .val (.ref b6), .val (.int v108_0), .val (.int r15), .val (.int r24), .val (.int r37), .val (.int r54), .val (.int r63), .val (.int r79), .val (.int r96), .val (.int r105), .unset]) rfl ?_
    show Steps p.tables e below (T108.setTop (mkF m 271 #[.val (.int p0), .val (.int p1), .val (.int p2), .val (.int a), .val (.int b0), .val (.int b1), .val (.int tot), .val (.ref b6), .val (.int v108_0), .val (.int r15), .val (.int r24), .val (.int r37), .val (.int r54), .val (.int r63), .val (.int r79), .val (.int r96), .val (.int r105), .unset] [])) _
    refine XS.aload X108.here hx rfl (hb hby at_271) rfl rfl ?_
    show Steps p.tables e below (T108.setTop (mkF m 273 #[.val (.int p0), .val (.int p1), .val (.int p2), .val (.int a), .val (.int b0), .val (.int b1), .val (.int tot), .val (.ref b6), .val (.int v108_0), .val (.int r15), .val (.int r24), .val (.int r37), .val (.int r54), .val (.int r63), .val (.int r79), .val (.int r96), .val (.int r105), .unset] [(.ref b6)])) _
    exact Steps.refl _)
  have Z_119 : n0 ≤ T104.heap.size := (Nat.le_trans Z_103 Kp104.1)
  obtain ⟨cq120, kq120, q120a, q120b, q120c⟩ := isOf hZ e108 Q104_0
  obtain ⟨_, _, ⟨T120, L120, k120, n120⟩, -, X120, ⟨Lc120, hQ120, l120, y120, z120⟩, st120⟩ := X108.virtualBack hx (y := (⟨"com/example/futures_from_states/futuresfromstates/model/Choices", "next", "()Z"⟩ : MethodName)) (z := (⟨"com/example/futures_from_states/futuresfromstates/model/Choices", "next", "()Z"⟩ : MethodName)) hown (mvT hZ (hw _ (List.mem_of_getElem? (i := 27) rfl))) (mvT hZ (hw _ (List.mem_of_getElem? (i := 28) rfl))) (notFace_of_selects (args := #[]) (mvT hZ (hw _ (List.mem_of_getElem? (i := 30) rfl)))) (mvT hZ (hw _ (List.mem_of_getElem? (i := 30) rfl))) (mvT hZ (hw _ (List.mem_of_getElem? (i := 29) rfl))) (by decide) (backOf (W := 0) (rm5 l Z a0 hw [] b6 b10_b5 b10_b12 k5_10 k12_10 c32 t32 m32 s32 T104.heap n0 Z_119 Q104_0 Q104_1 Q104_2 Q104_3 Q104_4 Q104_5 Q104_6 ne_b6_b10_b5 ne_b6_b10_b12 ne10_11 ge_b6 ge_b10_b5 (hI32)) hZ (hw _ (List.mem_of_getElem? (i := 31) rfl)) (hw _ (List.mem_of_getElem? (i := 2) rfl)) (by decide) (by decide)) q120a q120c (g := (mkF m 273 #[.val (.int p0), .val (.int p1), .val (.int p2), .val (.int a), .val (.int b0), .val (.int b1), .val (.int tot), .val (.ref b6), .val (.int v108_0), .val (.int r15), .val (.int r24), .val (.int r37), .val (.int r54), .val (.int r63), .val (.int r79), .val (.int r96), .val (.int r105), .unset] [(.ref b6)])) rfl (by rw [hml]; rfl) K118 (argsL := []) (rest := []) (lenOf pd_3 rfl) rfl (by show 2 * 0 + _ ≤ _; exact Nat.le_of_eq rfl) (hb hby at_273) (fun _ _ => ⟨rfl, e108, (by decide : 3 + 0 ≤ _), (by decide : 36 + 0 ≤ _)⟩)
  dsimp only [Pt.U, Pt.locs, Pt.cells, Pt.slots] at X120 l120 y120 z120 st120 hQ120
  subst l120 y120 z120
  obtain ⟨rfl, N120, Kp120, Q120_0, Q120_1, Q120_2, Q120_3, Q120_4, Q120_5⟩ := hQ120
  have N120' := Fr.app N108 N120
  have K122 : Steps p.tables e below _ (T120.setTop (mkF m 276 #[.val (.int p0), .val (.int p1), .val (.int p2), .val (.int a), .val (.int b0), .val (.int b1), .val (.int tot), .val (.ref b6), .val (.int v108_0), .val (.int r15), .val (.int r24), .val (.int r37), .val (.int r54), .val (.int r63), .val (.int r79), .val (.int r96), .val (.int r105), .unset] [(.int (f_rm5 c32 t32 m32))])) := st120
  obtain ⟨r121, hr121⟩ : ∃ z : Int32, (f_rm5 c32 t32 m32) = z := ⟨_, rfl⟩
  rw [hr121] at K122
  obtain ⟨s33, hs33⟩ : ∃ z : Int32, (u_rm5_4 c32 t32 m32) = z := ⟨_, rfl⟩
  rw [hs33] at Q120_4
  obtain ⟨c33, hc33⟩ : ∃ z : List Value, (u_rm5_5 c32 t32 m32) = z := ⟨_, rfl⟩
  rw [hc33] at Q120_5
  have hI33 := own_ivn hI32 hc33
  have K123 : Steps p.tables e below _ (T120.setTop (mkF m 280 #[.val (.int p0), .val (.int p1), .val (.int p2), .val (.int a), .val (.int b0), .val (.int b1), .val (.int tot), .val (.ref b6), .val (.int v108_0), .val (.int r15), .val (.int r24), .val (.int r37), .val (.int r54), .val (.int r63), .val (.int r79), .val (.int r96), .val (.int r105), .val (.int r121)] [(.int v108_0)])) := K122.trans (by
    show Steps p.tables e below (T120.setTop (mkF m 276 #[.val (.int p0), .val (.int p1), .val (.int p2), .val (.int a), .val (.int b0), .val (.int b1), .val (.int tot), .val (.ref b6), .val (.int v108_0), .val (.int r15), .val (.int r24), .val (.int r37), .val (.int r54), .val (.int r63), .val (.int r79), .val (.int r96), .val (.int r105), .unset] [(.int r121)])) _
    refine XS.istore X120.here hx rfl (hb hby at_276) rfl (l' := #[.val (.int p0), .val (.int p1), .val (.int p2), .val (.int a), .val (.int b0), .val (.int b1), .val (.int tot), .val (.ref b6), .val (.int v108_0), .val (.int r15), .val (.int r24), .val (.int r37), .val (.int r54), .val (.int r63), .val (.int r79), .val (.int r96), .val (.int r105), .val (.int r121)]) rfl ?_
    show Steps p.tables e below (T120.setTop (mkF m 278 #[.val (.int p0), .val (.int p1), .val (.int p2), .val (.int a), .val (.int b0), .val (.int b1), .val (.int tot), .val (.ref b6), .val (.int v108_0), .val (.int r15), .val (.int r24), .val (.int r37), .val (.int r54), .val (.int r63), .val (.int r79), .val (.int r96), .val (.int r105), .val (.int r121)] [])) _
    refine XS.iload X120.here hx rfl (hb hby at_278) rfl ?_
    show Steps p.tables e below (T120.setTop (mkF m 280 #[.val (.int p0), .val (.int p1), .val (.int p2), .val (.int a), .val (.int b0), .val (.int b1), .val (.int tot), .val (.ref b6), .val (.int v108_0), .val (.int r15), .val (.int r24), .val (.int r37), .val (.int r54), .val (.int r63), .val (.int r79), .val (.int r96), .val (.int r105), .val (.int r121)] [(.int v108_0)])) _
    exact Steps.refl _)
  obtain ⟨T124, L124, v124_0, X124, e124, N124, hv124_0, S124⟩ : ∃ (T124 : State) (L124 : List Loc) (v124_0 : Int32), Stand p l e room_1 s m #[(.int p0), (.int p1), (.int p2)] below meth c T124 L124 3 36 ∧ T124.heap = T120.heap ∧ Fr n0 L124 ∧ (if v108_0 = (0 : Int32) then (0 : Int32) else (if r121 = ((if ((2 : Int32) % tot) = (tot - (1 : Int32)) then (0 : Int32) else (1 : Int32)) &&& 1) then (1 : Int32) else (0 : Int32))) = v124_0 ∧ Steps p.tables e below (T120.setTop (mkF m 280 #[.val (.int p0), .val (.int p1), .val (.int p2), .val (.int a), .val (.int b0), .val (.int b1), .val (.int tot), .val (.ref b6), .val (.int v108_0), .val (.int r15), .val (.int r24), .val (.int r37), .val (.int r54), .val (.int r63), .val (.int r79), .val (.int r96), .val (.int r105), .val (.int r121)] [(.int v108_0)])) (T124.setTop (mkF m 299 #[.val (.int p0), .val (.int p1), .val (.int p2), .val (.int a), .val (.int b0), .val (.int b1), .val (.int tot), .val (.ref b6), .val (.int v108_0), .val (.int r15), .val (.int r24), .val (.int r37), .val (.int r54), .val (.int r63), .val (.int r79), .val (.int r96), .val (.int r105), .val (.int r121)] [(.int v124_0)])) := by
    have R124 := Steps.refl (tb := p.tables) (e := e) (below := below) (T120.setTop (mkF m 280 #[.val (.int p0), .val (.int p1), .val (.int p2), .val (.int a), .val (.int b0), .val (.int b1), .val (.int tot), .val (.ref b6), .val (.int v108_0), .val (.int r15), .val (.int r24), .val (.int r37), .val (.int r54), .val (.int r63), .val (.int r79), .val (.int r96), .val (.int r105), .val (.int r121)] [(.int v108_0)]))
    by_cases hc280 : v108_0 = (0 : Int32)
    · have K125 : Steps p.tables e below _ (T120.setTop (mkF m 299 #[.val (.int p0), .val (.int p1), .val (.int p2), .val (.int a), .val (.int b0), .val (.int b1), .val (.int tot), .val (.ref b6), .val (.int v108_0), .val (.int r15), .val (.int r24), .val (.int r37), .val (.int r54), .val (.int r63), .val (.int r79), .val (.int r96), .val (.int r105), .val (.int r121)] [(.int (0 : Int32))])) := R124.trans (by
        show Steps p.tables e below (T120.setTop (mkF m 280 #[.val (.int p0), .val (.int p1), .val (.int p2), .val (.int a), .val (.int b0), .val (.int b1), .val (.int tot), .val (.ref b6), .val (.int v108_0), .val (.int r15), .val (.int r24), .val (.int r37), .val (.int r54), .val (.int r63), .val (.int r79), .val (.int r96), .val (.int r105), .val (.int r121)] [(.int v108_0)])) _
        refine XS.ifYes X120.here hx rfl (pc0 := 280) (pc' := 298) rfl (hb hby at_280) rfl ((if0 _ _).trans (teq hc280).1) (by decide) (by decide) ?_
        show Steps p.tables e below (T120.setTop (mkF m 298 #[.val (.int p0), .val (.int p1), .val (.int p2), .val (.int a), .val (.int b0), .val (.int b1), .val (.int tot), .val (.ref b6), .val (.int v108_0), .val (.int r15), .val (.int r24), .val (.int r37), .val (.int r54), .val (.int r63), .val (.int r79), .val (.int r96), .val (.int r105), .val (.int r121)] [])) _
        refine XS.iconst X120.here hx rfl (hb hby at_298) ?_
        show Steps p.tables e below (T120.setTop (mkF m 299 #[.val (.int p0), .val (.int p1), .val (.int p2), .val (.int a), .val (.int b0), .val (.int b1), .val (.int tot), .val (.ref b6), .val (.int v108_0), .val (.int r15), .val (.int r24), .val (.int r37), .val (.int r54), .val (.int r63), .val (.int r79), .val (.int r96), .val (.int r105), .val (.int r121)] [(.int (0 : Int32))])) _
        exact Steps.refl _)
      exact ⟨T120, _, (0 : Int32), X120, rfl, N120', (by rw [if_pos hc280]), K125⟩
    · have K126 : Steps p.tables e below _ (T120.setTop (mkF m 288 #[.val (.int p0), .val (.int p1), .val (.int p2), .val (.int a), .val (.int b0), .val (.int b1), .val (.int tot), .val (.ref b6), .val (.int v108_0), .val (.int r15), .val (.int r24), .val (.int r37), .val (.int r54), .val (.int r63), .val (.int r79), .val (.int r96), .val (.int r105), .val (.int r121)] [(.int tot), (.int (2 : Int32)), (.int r121)])) := R124.trans (by
        show Steps p.tables e below (T120.setTop (mkF m 280 #[.val (.int p0), .val (.int p1), .val (.int p2), .val (.int a), .val (.int b0), .val (.int b1), .val (.int tot), .val (.ref b6), .val (.int v108_0), .val (.int r15), .val (.int r24), .val (.int r37), .val (.int r54), .val (.int r63), .val (.int r79), .val (.int r96), .val (.int r105), .val (.int r121)] [(.int v108_0)])) _
        refine XS.ifNo X120.here hx rfl (hb hby at_280) rfl ((if0 _ _).trans (feq hc280).1) ?_
        show Steps p.tables e below (T120.setTop (mkF m 283 #[.val (.int p0), .val (.int p1), .val (.int p2), .val (.int a), .val (.int b0), .val (.int b1), .val (.int tot), .val (.ref b6), .val (.int v108_0), .val (.int r15), .val (.int r24), .val (.int r37), .val (.int r54), .val (.int r63), .val (.int r79), .val (.int r96), .val (.int r105), .val (.int r121)] [])) _
        refine XS.iload X120.here hx rfl (hb hby at_283) rfl ?_
        show Steps p.tables e below (T120.setTop (mkF m 285 #[.val (.int p0), .val (.int p1), .val (.int p2), .val (.int a), .val (.int b0), .val (.int b1), .val (.int tot), .val (.ref b6), .val (.int v108_0), .val (.int r15), .val (.int r24), .val (.int r37), .val (.int r54), .val (.int r63), .val (.int r79), .val (.int r96), .val (.int r105), .val (.int r121)] [(.int r121)])) _
        refine XS.iconst X120.here hx rfl (hb hby at_285) ?_
        show Steps p.tables e below (T120.setTop (mkF m 286 #[.val (.int p0), .val (.int p1), .val (.int p2), .val (.int a), .val (.int b0), .val (.int b1), .val (.int tot), .val (.ref b6), .val (.int v108_0), .val (.int r15), .val (.int r24), .val (.int r37), .val (.int r54), .val (.int r63), .val (.int r79), .val (.int r96), .val (.int r105), .val (.int r121)] [(.int (2 : Int32)), (.int r121)])) _
        refine XS.iload X120.here hx rfl (hb hby at_286) rfl ?_
        show Steps p.tables e below (T120.setTop (mkF m 288 #[.val (.int p0), .val (.int p1), .val (.int p2), .val (.int a), .val (.int b0), .val (.int b1), .val (.int tot), .val (.ref b6), .val (.int v108_0), .val (.int r15), .val (.int r24), .val (.int r37), .val (.int r54), .val (.int r63), .val (.int r79), .val (.int r96), .val (.int r105), .val (.int r121)] [(.int tot), (.int (2 : Int32)), (.int r121)])) _
        exact Steps.refl _)
      have Z_127 : n0 ≤ T120.heap.size := (Nat.le_trans Z_119 Kp120.1)
      obtain ⟨_, _, ⟨T128, L128, k128, n128⟩, -, X128, ⟨Lc128, hQ128, l128, y128, z128⟩, st128⟩ := Jvm.LawKit.callS X120 hx (y := (⟨"com/example/futures_from_states/futuresfromstates/model/ChoicesNextPinLaw", "notLast", "(II)Z"⟩ : MethodName)) hown (mvT hZ (hw _ (List.mem_of_getElem? (i := 32) rfl))) (mvT hZ (hw _ (List.mem_of_getElem? (i := 33) rfl))) (mvT hZ (hw _ (List.mem_of_getElem? (i := 25) rfl))) (mvT hZ (hw _ (List.mem_of_getElem? (i := 34) rfl))) (by decide) (backOf (W := 1) (rm6 l Z a0 hw [] (2 : Int32) tot T120.heap n0 Z_127 (own_tot ha hb0 hb1 htot)) hZ (hw _ (List.mem_of_getElem? (i := 34) rfl)) (hw _ (List.mem_of_getElem? (i := 25) rfl)) (by decide) (by decide)) (g := (mkF m 288 #[.val (.int p0), .val (.int p1), .val (.int p2), .val (.int a), .val (.int b0), .val (.int b1), .val (.int tot), .val (.ref b6), .val (.int v108_0), .val (.int r15), .val (.int r24), .val (.int r37), .val (.int r54), .val (.int r63), .val (.int r79), .val (.int r96), .val (.int r105), .val (.int r121)] [(.int tot), (.int (2 : Int32)), (.int r121)])) rfl (by rw [hml]; rfl) (argsL := [(.int (2 : Int32)), (.int tot)]) (rest := [(.int r121)]) (lenOf pd_4 rfl) rfl (by show 2 * 0 + _ ≤ _; exact Nat.le_of_eq rfl) (hb hby at_288) (fun _ _ => ⟨rfl, rfl, (by decide : 3 + 0 ≤ _), (by decide : 36 + 0 ≤ _)⟩)
      dsimp only [Pt.U, Pt.locs, Pt.cells, Pt.slots] at X128 l128 y128 z128 st128 hQ128
      subst l128 y128 z128
      obtain ⟨rfl, N128, eh128⟩ := hQ128
      have N128' := Fr.app N120' N128
      have K130 : Steps p.tables e below _ (T128.setTop (mkF m 291 #[.val (.int p0), .val (.int p1), .val (.int p2), .val (.int a), .val (.int b0), .val (.int b1), .val (.int tot), .val (.ref b6), .val (.int v108_0), .val (.int r15), .val (.int r24), .val (.int r37), .val (.int r54), .val (.int r63), .val (.int r79), .val (.int r96), .val (.int r105), .val (.int r121)] [(.int ((if ((2 : Int32) % tot) = (tot - (1 : Int32)) then (0 : Int32) else (1 : Int32)) &&& 1)), (.int r121)])) := K126.trans (st128 _ (Steps.refl _))
      obtain ⟨r129, hr129⟩ : ∃ z : Int32, ((if ((2 : Int32) % tot) = (tot - (1 : Int32)) then (0 : Int32) else (1 : Int32)) &&& 1) = z := ⟨_, rfl⟩
      rw [hr129] at K130
      by_cases hc291 : r121 = r129
      · have K131 : Steps p.tables e below _ (T128.setTop (mkF m 299 #[.val (.int p0), .val (.int p1), .val (.int p2), .val (.int a), .val (.int b0), .val (.int b1), .val (.int tot), .val (.ref b6), .val (.int v108_0), .val (.int r15), .val (.int r24), .val (.int r37), .val (.int r54), .val (.int r63), .val (.int r79), .val (.int r96), .val (.int r105), .val (.int r121)] [(.int (1 : Int32))])) := K130.trans (by
          show Steps p.tables e below (T128.setTop (mkF m 291 #[.val (.int p0), .val (.int p1), .val (.int p2), .val (.int a), .val (.int b0), .val (.int b1), .val (.int tot), .val (.ref b6), .val (.int v108_0), .val (.int r15), .val (.int r24), .val (.int r37), .val (.int r54), .val (.int r63), .val (.int r79), .val (.int r96), .val (.int r105), .val (.int r121)] [(.int r129), (.int r121)])) _
          refine XS.icmpNo X128.here hx rfl (hb hby at_291) rfl (teq hc291).2 ?_
          show Steps p.tables e below (T128.setTop (mkF m 294 #[.val (.int p0), .val (.int p1), .val (.int p2), .val (.int a), .val (.int b0), .val (.int b1), .val (.int tot), .val (.ref b6), .val (.int v108_0), .val (.int r15), .val (.int r24), .val (.int r37), .val (.int r54), .val (.int r63), .val (.int r79), .val (.int r96), .val (.int r105), .val (.int r121)] [])) _
          refine XS.iconst X128.here hx rfl (hb hby at_294) ?_
          show Steps p.tables e below (T128.setTop (mkF m 295 #[.val (.int p0), .val (.int p1), .val (.int p2), .val (.int a), .val (.int b0), .val (.int b1), .val (.int tot), .val (.ref b6), .val (.int v108_0), .val (.int r15), .val (.int r24), .val (.int r37), .val (.int r54), .val (.int r63), .val (.int r79), .val (.int r96), .val (.int r105), .val (.int r121)] [(.int (1 : Int32))])) _
          refine XS.goto X128.here hx rfl (pc0 := 295) (pc' := 299) rfl (hb hby at_295) (by decide) (by decide) ?_
          show Steps p.tables e below (T128.setTop (mkF m 299 #[.val (.int p0), .val (.int p1), .val (.int p2), .val (.int a), .val (.int b0), .val (.int b1), .val (.int tot), .val (.ref b6), .val (.int v108_0), .val (.int r15), .val (.int r24), .val (.int r37), .val (.int r54), .val (.int r63), .val (.int r79), .val (.int r96), .val (.int r105), .val (.int r121)] [(.int (1 : Int32))])) _
          exact Steps.refl _)
        subst hr129
        exact ⟨T128, _, (1 : Int32), X128, eh128, N128', (by rw [if_neg hc280, if_pos hc291]), K131⟩
      · have K132 : Steps p.tables e below _ (T128.setTop (mkF m 299 #[.val (.int p0), .val (.int p1), .val (.int p2), .val (.int a), .val (.int b0), .val (.int b1), .val (.int tot), .val (.ref b6), .val (.int v108_0), .val (.int r15), .val (.int r24), .val (.int r37), .val (.int r54), .val (.int r63), .val (.int r79), .val (.int r96), .val (.int r105), .val (.int r121)] [(.int (0 : Int32))])) := K130.trans (by
          show Steps p.tables e below (T128.setTop (mkF m 291 #[.val (.int p0), .val (.int p1), .val (.int p2), .val (.int a), .val (.int b0), .val (.int b1), .val (.int tot), .val (.ref b6), .val (.int v108_0), .val (.int r15), .val (.int r24), .val (.int r37), .val (.int r54), .val (.int r63), .val (.int r79), .val (.int r96), .val (.int r105), .val (.int r121)] [(.int r129), (.int r121)])) _
          refine XS.icmpYes X128.here hx rfl (pc0 := 291) (pc' := 298) rfl (hb hby at_291) rfl (feq hc291).2 (by decide) (by decide) ?_
          show Steps p.tables e below (T128.setTop (mkF m 298 #[.val (.int p0), .val (.int p1), .val (.int p2), .val (.int a), .val (.int b0), .val (.int b1), .val (.int tot), .val (.ref b6), .val (.int v108_0), .val (.int r15), .val (.int r24), .val (.int r37), .val (.int r54), .val (.int r63), .val (.int r79), .val (.int r96), .val (.int r105), .val (.int r121)] [])) _
          refine XS.iconst X128.here hx rfl (hb hby at_298) ?_
          show Steps p.tables e below (T128.setTop (mkF m 299 #[.val (.int p0), .val (.int p1), .val (.int p2), .val (.int a), .val (.int b0), .val (.int b1), .val (.int tot), .val (.ref b6), .val (.int v108_0), .val (.int r15), .val (.int r24), .val (.int r37), .val (.int r54), .val (.int r63), .val (.int r79), .val (.int r96), .val (.int r105), .val (.int r121)] [(.int (0 : Int32))])) _
          exact Steps.refl _)
        subst hr129
        exact ⟨T128, _, (0 : Int32), X128, eh128, N128', (by rw [if_neg hc280, if_neg hc291]), K132⟩
  have K133 := K123.trans S124
  have K134 : Steps p.tables e below _ (T124.setTop (mkF m 303 #[.val (.int p0), .val (.int p1), .val (.int p2), .val (.int a), .val (.int b0), .val (.int b1), .val (.int tot), .val (.ref b6), .val (.int v124_0), .val (.int r15), .val (.int r24), .val (.int r37), .val (.int r54), .val (.int r63), .val (.int r79), .val (.int r96), .val (.int r105), .val (.int r121)] [(.int v124_0)])) := K133.trans (by
    show Steps p.tables e below (T124.setTop (mkF m 299 #[.val (.int p0), .val (.int p1), .val (.int p2), .val (.int a), .val (.int b0), .val (.int b1), .val (.int tot), .val (.ref b6), .val (.int v108_0), .val (.int r15), .val (.int r24), .val (.int r37), .val (.int r54), .val (.int r63), .val (.int r79), .val (.int r96), .val (.int r105), .val (.int r121)] [(.int v124_0)])) _
    refine XS.istore X124.here hx rfl (hb hby at_299) rfl (l' := #[.val (.int p0), .val (.int p1), .val (.int p2), .val (.int a), .val (.int b0), .val (.int b1), .val (.int tot), .val (.ref b6), .val (.int v124_0), .val (.int r15), .val (.int r24), .val (.int r37), .val (.int r54), .val (.int r63), .val (.int r79), .val (.int r96), .val (.int r105), .val (.int r121)]) rfl ?_
    show Steps p.tables e below (T124.setTop (mkF m 301 #[.val (.int p0), .val (.int p1), .val (.int p2), .val (.int a), .val (.int b0), .val (.int b1), .val (.int tot), .val (.ref b6), .val (.int v124_0), .val (.int r15), .val (.int r24), .val (.int r37), .val (.int r54), .val (.int r63), .val (.int r79), .val (.int r96), .val (.int r105), .val (.int r121)] [])) _
    refine XS.iload X124.here hx rfl (hb hby at_301) rfl ?_
    show Steps p.tables e below (T124.setTop (mkF m 303 #[.val (.int p0), .val (.int p1), .val (.int p2), .val (.int a), .val (.int b0), .val (.int b1), .val (.int tot), .val (.ref b6), .val (.int v124_0), .val (.int r15), .val (.int r24), .val (.int r37), .val (.int r54), .val (.int r63), .val (.int r79), .val (.int r96), .val (.int r105), .val (.int r121)] [(.int v124_0)])) _
    exact Steps.refl _)
  have hone : (v124_0 &&& 1) = (1 : Int32) := own_law_0 p0 p1 p2 a b0 b1 tot r15 m11 s11 c11 t11 v18_0 r24 m12 s12 c12 t12 r29 v31_0 r37 s13 c13 v40_0 r54 m21 s21 c21 t21 v57_0 r63 m22 s22 c22 t22 v66_0 r79 s23 c23 v82_0 r96 m31 s31 c31 t31 v99_0 r105 m32 s32 c32 t32 v108_0 r121 s33 c33 v124_0 ha hb0 hb1 htot hr15 hm11 hs11 hc11 ht11 hv18_0 hr24 hm12 hs12 hc12 ht12 hr29 hv31_0 hr37 hs13 hc13 hv40_0 hr54 hm21 hs21 hc21 ht21 hv57_0 hr63 hm22 hs22 hc22 ht22 hv66_0 hr79 hs23 hc23 hv82_0 hr96 hm31 hs31 hc31 ht31 hv99_0 hr105 hm32 hs32 hc32 ht32 hv108_0 hr121 hs33 hc33 hv124_0
  obtain ⟨fs, hr, hrun, hended, hW, hsame⟩ := X124.leave (v := some (.int (v124_0 &&& 1))) (fun h => by rw [Bd.returns] at h; cases h)
  exact ⟨_, _, K134.trans (retN X124 hx (t := .boolean) Bd.returns (by simp) (hb hby at_303) hr), hrun, hended, _, _, rfl, ⟨by rw [hone], N124⟩, ⟨_, rfl⟩, hW, hsame.mono (by decide) (by decide)⟩
set_option maxRecDepth 65536 in
set_option maxHeartbeats 40000000 in
theorem comes_1 {Post : Tables → Env → Array Value → State → Outcome → State → Prop} (hpost : ∀ tb e args s v u, (limb_1_1.after args s (.returned v) u = true ∧ limb_1_2.after args s (.returned v) u = true ∧ True) → FrameEnd s (.returned v) u (Jvm.fieldLocs frame_1_writes args s ++ Jvm.arrayLocs frame_1_arrays args s ++ Jvm.staticLocs frame_1_statics s) 16 192 → Post tb e args s (.returned v) u) :
    ArmFor flags0 classFile x code maxLocals ret World_1 tables_1 room_1 Calls_1 rest_1 Pre_1 Post := by
  intro l hfl _ _ p e ha hc hk s m args below hf hA hF happ hP
  obtain ⟨hcalls, hrest, hpre⟩ := hP
  obtain ⟨-, -, -, hnamed, -, -, -, hat⟩ := (Spec.applies_iff hf).mp happ
  obtain ⟨hg, hn⟩ := and_e (Cond.before_iff.mp (show (Jvm.Cond.and given_1 narrow_1).before args s = true from hpre))
  obtain ⟨g1, g2⟩ := and_e hg
  obtain ⟨g3, g4⟩ := and_e g2
  obtain ⟨g5, g6⟩ := and_e g4
  obtain ⟨w0, w1, w2, rfl⟩ : ∃ w0 w1 w2 : Value, args = #[w0, w1, w2] := by
    have hs : args.size = 3 := by simpa [Cond.value, given_1] using g1
    obtain ⟨L⟩ := args
    match L, hs with
    | [w0, w1, w2], _ => exact ⟨w0, w1, w2, rfl⟩
  have hw := fun d (hd : d ∈ tables_1) => atoms_spec (ws := Jvm.Cond.code x code maxLocals ret :: tables_1) hat d (List.mem_cons_of_mem _ hd)
  obtain ⟨i0, ei0⟩ := is_v g3
  obtain rfl : w0 = (.int i0) := Option.some.inj ei0
  obtain ⟨i1, ei1⟩ := is_v g5
  obtain rfl : w1 = (.int i1) := Option.some.inj ei1
  obtain ⟨i2, ei2⟩ := is_v g6
  obtain rfl : w2 = (.int i2) := Option.some.inj ei2
  obtain ⟨n, o, h1, h2, h3, _, L, rfl, ⟨rfl, N⟩, hq⟩ := rm0 l s _ hw tables_1 i0 i1 i2 s.heap s.heap.size (Nat.le_refl _) p e ha hc hk s m _ below hf ((Spec.applies_iff_loose hf).mp happ).1 ⟨rfl, State.Warmed39.refl s, rfl⟩ trivial
  refine ⟨n, _, h1, h2, h3, hpost _ _ _ _ _ _ ⟨Cond.after_iff.mpr rfl, Cond.after_iff.mpr (eq_i res_at (Term.int_eval (1)) rfl), trivial⟩ ⟨hq.1, hq.2.1, (hq.2.2.sift fun y hy => Or.inr (N y hy)).mono (by decide) (by decide)⟩⟩
theorem main_1_1 : Claimed_1_1 := comes_1 fun _ _ _ _ _ _ h hF => ⟨h.1, hF⟩
theorem main_1_2 : Claimed_1_2 := comes_1 fun _ _ _ _ _ _ h hF => ⟨h.2.1, hF⟩
end Jvm.Pilot.@@N@@
namespace Jvm.Pilot.@@N@@
open Jvm Jvm.ClassFile Sem Op Lib Jvm.Free Jvm.Stand Jvm.Pilot.@@N@@.Jvm.D
/-! MADE BY PROGRAM (witnessworld.py) out of the Statement's table words and the real class files: 9 classes; the members and pool entries that the words name. The judged class is class 1, her method 1. -/
namespace start1
open Jvm.ClassFile
def u (s : String) : CpInfo := .utf8 (stringToUtf16 s)
/-- a pool by its gaps: so many unusable entries, then the entry; so many at the end -/
def gap : Nat → List CpInfo → List CpInfo
  | 0, r => r
  | n + 1, r => .unusable :: gap n r
def poolList (es : List (Nat × CpInfo)) (last : Nat) : List CpInfo := es.foldr (fun e r => gap e.1 (e.2 :: r)) (gap last [])
def pool (es : List (Nat × CpInfo)) (last : Nat) : Array CpInfo := ⟨poolList es last⟩
def fileOf (pool : Array CpInfo) (this : Nat) (attrs : Array Attribute := #[]) (ms : Array MethodInfo := #[]) (fl : Nat := 33) (sup : Nat := 0) (ifs : Array Nat := #[]) (fds : Array FieldInfo := #[]) : ClassFile where
  minorVersion := 0
  majorVersion := 65
  constantPool := pool
  accessFlags := fl
  thisClass := this
  superClass := sup
  interfaces := ifs
  fields := fds
  methods := ms
  attributes := attrs
def plain (name : String) (sup : Option ClassId) : Class where
  name := name
  kind := .ordinary
  loader := none
  accessFlags := 33
  super := sup
  interfaces := #[]
  cf := none
  fields := #[]
  methods := #[]
  instanceTypes := #[]
  staticTypes := #[]
  resolved := #[]
  callSites := []
  init := .initialized
  statics := none
  mirror := none

def pool0 : Array CpInfo := pool [(5, u "<init>"), (0, u "()V"), (1, .class_ 10), (1, u "java/lang/Object")] 113

def k0c0 : Code := { maxStack := 0, maxLocals := 1, code := object_method_1_code, exceptionTable := #[], attributes := #[] }
def k0m0 : Method := { name := "<init>", desc := "()V", sig := { parameters := [], returnType := none }, accessFlags := 1, code := some k0c0 }
/-- java/lang/Object -/
def k0 : Class := { plain "java/lang/Object" none with
  accessFlags := 33
  interfaces := #[]
  cf := some (fileOf pool0 8 #[] #[{ accessFlags := 1, nameIndex := 5, descriptorIndex := 6, attributes := #[] }] 33 0 #[] #[])
  fields := #[]
  methods := #[k0m0]
  instanceTypes := #[]
  staticTypes := #[]
  resolved := Array.replicate 124 none
  statics := none }

def pool1 : Array CpInfo := pool [(2, .class_ 4), (0, .nameAndType 5 6), (0, u "java/lang/Object"), (0, u "<init>"), (0, u "()V"), (0, .class_ 8), (0, u "com/example/futures_from_states/futuresfromstates/model/Choices"), (0, .methodref 7 3), (0, .methodref 7 11), (0, .nameAndType 12 13), (0, u "choose"), (0, u "(I)I"), (0, .methodref 15 16), (0, .class_ 17), (0, .nameAndType 18 19), (0, u "com/example/futures_from_states/futuresfromstates/model/ChoicesNextPinLaw"), (0, u "fits"), (0, u "(IIIIII)Z"), (0, .methodref 7 21), (0, .nameAndType 22 23), (0, u "next"), (0, u "()Z"), (0, .methodref 15 25), (0, .nameAndType 26 27), (0, u "notLast"), (0, u "(II)Z"), (2, u "law"), (0, u "(III)Z")] 3

def k1m0 : Method := { name := "<init>", desc := "()V", sig := { parameters := [], returnType := none }, accessFlags := 1, code := none }
def k1c1 : Code := { maxStack := 6, maxLocals := 18, code := code, exceptionTable := #[], attributes := #[] }
def k1m1 : Method := { name := "law", desc := "(III)Z", sig := { parameters := [.int, .int, .int], returnType := some .boolean }, accessFlags := 9, code := some k1c1 }
def k1c2 : Code := { maxStack := 3, maxLocals := 2, code := method_3_code, exceptionTable := #[], attributes := #[] }
def k1m2 : Method := { name := "notLast", desc := "(II)Z", sig := { parameters := [.int, .int], returnType := some .boolean }, accessFlags := 10, code := some k1c2 }
def k1c3 : Code := { maxStack := 3, maxLocals := 9, code := method_4_code, exceptionTable := #[], attributes := #[] }
def k1m3 : Method := { name := "fits", desc := "(IIIIII)Z", sig := { parameters := [.int, .int, .int, .int, .int, .int], returnType := some .boolean }, accessFlags := 10, code := some k1c3 }
/-- com/example/futures_from_states/futuresfromstates/model/ChoicesNextPinLaw -/
def k1 : Class := { plain "com/example/futures_from_states/futuresfromstates/model/ChoicesNextPinLaw" (some 0) with
  accessFlags := 49
  interfaces := #[]
  cf := some (fileOf pool1 15 #[] #[{ accessFlags := 1, nameIndex := 5, descriptorIndex := 6, attributes := #[] }, { accessFlags := 9, nameIndex := 30, descriptorIndex := 31, attributes := #[] }, { accessFlags := 10, nameIndex := 26, descriptorIndex := 27, attributes := #[] }, { accessFlags := 10, nameIndex := 18, descriptorIndex := 19, attributes := #[] }] 49 2 #[] #[])
  fields := #[]
  methods := #[k1m0, k1m1, k1m2, k1m3]
  instanceTypes := #[]
  staticTypes := #[]
  resolved := Array.replicate 35 none
  statics := none }

def pool2 : Array CpInfo := pool [(1, .methodref 2 3), (0, .class_ 4), (0, .nameAndType 5 6), (0, u "java/lang/Object"), (0, u "<init>"), (0, u "()V"), (0, .fieldref 8 9), (0, .class_ 10), (0, .nameAndType 11 12), (0, u "com/example/futures_from_states/futuresfromstates/model/Choices"), (0, u "chosen"), (0, u "[I"), (0, .fieldref 8 14), (0, .nameAndType 15 12), (0, u "counts"), (0, .fieldref 8 17), (0, .nameAndType 18 19), (0, u "made"), (0, u "I"), (0, .fieldref 8 21), (0, .nameAndType 22 19), (0, u "replayed"), (8, u "choose"), (0, u "(I)I"), (1, u "next"), (0, u "()Z")] 2

def k2c0 : Code := { maxStack := 2, maxLocals := 1, code := prog_50_method_1_code, exceptionTable := #[], attributes := #[] }
def k2m0 : Method := { name := "<init>", desc := "()V", sig := { parameters := [], returnType := none }, accessFlags := 0, code := some k2c0 }
def k2c1 : Code := { maxStack := 5, maxLocals := 2, code := prog_50_method_2_code, exceptionTable := #[], attributes := #[] }
def k2m1 : Method := { name := "choose", desc := "(I)I", sig := { parameters := [.int], returnType := some .int }, accessFlags := 0, code := some k2c1 }
def k2c2 : Code := { maxStack := 4, maxLocals := 2, code := prog_50_method_3_code, exceptionTable := #[], attributes := #[] }
def k2m2 : Method := { name := "next", desc := "()Z", sig := { parameters := [], returnType := some .boolean }, accessFlags := 0, code := some k2c2 }
/-- com/example/futures_from_states/futuresfromstates/model/Choices -/
def k2 : Class := { plain "com/example/futures_from_states/futuresfromstates/model/Choices" (some 0) with
  accessFlags := 32
  interfaces := #[]
  cf := some (fileOf pool2 8 #[] #[{ accessFlags := 0, nameIndex := 5, descriptorIndex := 6, attributes := #[] }, { accessFlags := 0, nameIndex := 31, descriptorIndex := 32, attributes := #[] }, { accessFlags := 0, nameIndex := 34, descriptorIndex := 35, attributes := #[] }] 32 2 #[] #[{ accessFlags := 2, nameIndex := 11, descriptorIndex := 12, attributes := #[] }, { accessFlags := 2, nameIndex := 15, descriptorIndex := 12, attributes := #[] }, { accessFlags := 2, nameIndex := 22, descriptorIndex := 19, attributes := #[] }, { accessFlags := 2, nameIndex := 18, descriptorIndex := 19, attributes := #[] }])
  fields := #[{ name := "chosen", type := (.array .int), accessFlags := 2, slot := 0, constantValue := 0 }, { name := "counts", type := (.array .int), accessFlags := 2, slot := 1, constantValue := 0 }, { name := "replayed", type := .int, accessFlags := 2, slot := 2, constantValue := 0 }, { name := "made", type := .int, accessFlags := 2, slot := 3, constantValue := 0 }]
  methods := #[k2m0, k2m1, k2m2]
  instanceTypes := #[(.array .int), (.array .int), .int, .int]
  staticTypes := #[]
  resolved := Array.replicate 38 none
  statics := none }

def pool3 : Array CpInfo := pool [(1, u "java/lang/Cloneable"), (0, .class_ 1), (0, u "java/lang/Object"), (0, .class_ 3)] 3

/-- java/lang/Cloneable -/
def k3 : Class := { plain "java/lang/Cloneable" (some 0) with
  accessFlags := 1537
  interfaces := #[]
  cf := some (fileOf pool3 2 #[] #[] 1537 4 #[] #[])
  fields := #[]
  methods := #[]
  instanceTypes := #[]
  staticTypes := #[]
  resolved := Array.replicate 8 none
  statics := none }

def pool4 : Array CpInfo := pool [(1, u "java/io/Serializable"), (0, .class_ 1), (0, u "java/lang/Object"), (0, .class_ 3)] 3

/-- java/io/Serializable -/
def k4 : Class := { plain "java/io/Serializable" (some 0) with
  accessFlags := 1537
  interfaces := #[]
  cf := some (fileOf pool4 2 #[] #[] 1537 4 #[] #[])
  fields := #[]
  methods := #[]
  instanceTypes := #[]
  staticTypes := #[]
  resolved := Array.replicate 8 none
  statics := none }

/-- the primitive byte -/
def k5 : Class := { plain "byte" none with kind := .primitive 'B', accessFlags := 0x411 }
/-- [B -/
def k6 : Class := { plain "[B" (some 0) with kind := .array 5 .byte, interfaces := #[3, 4], accessFlags := 1041 }

/-- the primitive int -/
def k7 : Class := { plain "int" none with kind := .primitive 'I', accessFlags := 0x411 }
/-- [I -/
def k8 : Class := { plain "[I" (some 0) with kind := .array 7 .int, interfaces := #[3, 4], accessFlags := 1041 }

def heap : Heap := #[]
def classes : Array Class := #[k0, k1, k2, k3, k4, k5, k6, k7, k8]
def interned : List (Array UInt16 × Addr) := []
def slotsUsed : Nat := 0
def theMethod : MethodId := ⟨1, 1⟩
def args0 : Array Value := #[.int 5, .int 3, .int 3]
def aboutOver (below : List Frame) : State where
  vm := { classes := classes, interned := interned.toArray }
  heap := heap
  slotsUsed := slotsUsed
  threads := #[{ frames := .invoking theMethod args0 :: below }]
def below0 : List Frame := [.native { method := ⟨0, 0⟩, args := #[] }]
def about1 : State := aboutOver below0
def p0 : Program := .bare "" "" ""
def e0 : Env := launch0.env 0 0 0
theorem w_frames : about1.frames = Frame.invoking theMethod args0 :: below0 := rfl
set_option maxRecDepth 65536 in
theorem w_args : argsFit about1.vm theMethod args0 = true := by decide +kernel
set_option maxRecDepth 65536 in
theorem w_heap : heapFits about1 = true := by decide +kernel
set_option maxRecDepth 65536 in
theorem w_runnable : about1.curStatus? = some .runnable := by decide +kernel
set_option maxRecDepth 65536 in
theorem w_alone : about1.alone = true := by decide +kernel
set_option maxRecDepth 65536 in
theorem w_named : about1.methodNamed? x = some theMethod := by decide +kernel
set_option maxRecDepth 65536 in
theorem w_hears : about1.hears theMethod below0 = true := by decide +kernel
set_option maxRecDepth 65536 in
theorem w_ripe : about1.ripe theMethod args0 below0 = true := by decide +kernel
theorem w_running : about1.status = .running := rfl
set_option maxRecDepth 65536 in
theorem w_room : about1.hasRoom e0.platform room_1 = true :=
  launch0.hasRoom_least _ room_1 (by decide +kernel) (by decide +kernel) (by decide +kernel) (by decide +kernel) (by decide +kernel) (by decide +kernel)
theorem allAtoms_all (ts : List Jvm.Cond) (a : Array Jvm.Value) (st : Jvm.State) : (allAtoms ts).before a st = ts.all (fun c => c.before a st) := by
  induction ts with
  | nil => rfl
  | cons c t ih =>
    show (Jvm.Cond.and c (allAtoms t)).before a st = _
    rw [Jvm.Cond.before_and, ih, List.all_cons]
def words1 : List Jvm.Cond := Jvm.Cond.code x code maxLocals ret :: tables_1
/-- a 'code' word, met by the world's own term for the bytes: nothing is compared byte by byte -/
theorem code_word {y : MethodName} {bytes : ByteArray} {mx : Nat} {rt : Option FieldType} {a : Array Value} {s : State} {m : MethodId} {meth : Method} {c : Code} (h1 : s.methodNamed? y = some m) (h2 : s.vm.method? m = some meth) (h3 : meth.code = some c) (h4 : c.code = bytes)
    (h5 : (c.maxLocals == mx && c.exceptionTable.isEmpty && decide (c.maxStack ≤ mostOperands) && decide (meth.sig.returnType = rt) && !meth.locks && decide (parseMethodDescriptor y.desc = some meth.sig)) = true) : (Jvm.Cond.code y bytes mx rt).before a s = true := by
  simp only [Bool.and_eq_true, beq_iff_eq, Bool.not_eq_true', decide_eq_true_eq] at h5
  obtain ⟨⟨⟨⟨⟨g1, g2⟩, g3⟩, g4⟩, g5⟩, g6⟩ := h5
  simp [Cond.before, Cond.holds, Cond.value, h1, h2, h3, h4, g1, g2, g3, g4, g5, g6]
def isCode : Jvm.Cond → Bool
  | .code _ _ _ _ => true
  | _ => false
theorem all_split {L : List Jvm.Cond} {P : Jvm.Cond → Bool} (h1 : L.all (fun c => isCode c || P c) = true) (h2 : ∀ c ∈ L.filter isCode, P c = true) : L.all P = true := by
  refine List.all_eq_true.mpr fun c hc => ?_
  have h := List.all_eq_true.mp h1 c hc
  rcases Bool.eq_false_or_eq_true (isCode c) with hi | hi
  · exact h2 c (List.mem_filter.mpr ⟨hc, hi⟩)
  · simpa [hi] using h
set_option maxRecDepth 65536 in
theorem w_c0 : (Jvm.Cond.code x code maxLocals ret).before args0 about1 = true := code_word (m := ⟨1, 1⟩) (meth := k1m1) (c := k1c1) (by decide +kernel) rfl rfl rfl (by decide +kernel)
set_option maxRecDepth 65536 in
theorem w_c1 : (Jvm.Cond.code ({ cls := "com/example/futures_from_states/futuresfromstates/model/Choices", name := "<init>", desc := "()V" } : Jvm.MethodName) prog_50_method_1_code (1 : Nat) (Option.none : Option Jvm.ClassFile.FieldType)).before args0 about1 = true := code_word (m := ⟨2, 0⟩) (meth := k2m0) (c := k2c0) (by decide +kernel) rfl rfl rfl (by decide +kernel)
set_option maxRecDepth 65536 in
theorem w_c2 : (Jvm.Cond.code ({ cls := "java/lang/Object", name := "<init>", desc := "()V" } : Jvm.MethodName) object_method_1_code (1 : Nat) (Option.none : Option Jvm.ClassFile.FieldType)).before args0 about1 = true := code_word (m := ⟨0, 0⟩) (meth := k0m0) (c := k0c0) (by decide +kernel) rfl rfl rfl (by decide +kernel)
set_option maxRecDepth 65536 in
theorem w_c3 : (Jvm.Cond.code ({ cls := "com/example/futures_from_states/futuresfromstates/model/Choices", name := "choose", desc := "(I)I" } : Jvm.MethodName) prog_50_method_2_code (2 : Nat) (Option.some Jvm.ClassFile.FieldType.int)).before args0 about1 = true := code_word (m := ⟨2, 1⟩) (meth := k2m1) (c := k2c1) (by decide +kernel) rfl rfl rfl (by decide +kernel)
set_option maxRecDepth 65536 in
theorem w_c4 : (Jvm.Cond.code ({ cls := "com/example/futures_from_states/futuresfromstates/model/ChoicesNextPinLaw", name := "fits", desc := "(IIIIII)Z" } : Jvm.MethodName) method_4_code (9 : Nat) (Option.some Jvm.ClassFile.FieldType.boolean)).before args0 about1 = true := code_word (m := ⟨1, 3⟩) (meth := k1m3) (c := k1c3) (by decide +kernel) rfl rfl rfl (by decide +kernel)
set_option maxRecDepth 65536 in
theorem w_c5 : (Jvm.Cond.code ({ cls := "com/example/futures_from_states/futuresfromstates/model/Choices", name := "next", desc := "()Z" } : Jvm.MethodName) prog_50_method_3_code (2 : Nat) (Option.some Jvm.ClassFile.FieldType.boolean)).before args0 about1 = true := code_word (m := ⟨2, 2⟩) (meth := k2m2) (c := k2c2) (by decide +kernel) rfl rfl rfl (by decide +kernel)
set_option maxRecDepth 65536 in
theorem w_c6 : (Jvm.Cond.code ({ cls := "com/example/futures_from_states/futuresfromstates/model/ChoicesNextPinLaw", name := "notLast", desc := "(II)Z" } : Jvm.MethodName) method_3_code (2 : Nat) (Option.some Jvm.ClassFile.FieldType.boolean)).before args0 about1 = true := code_word (m := ⟨1, 2⟩) (meth := k1m2) (c := k1c2) (by decide +kernel) rfl rfl rfl (by decide +kernel)
def codes1 : List Jvm.Cond := [Jvm.Cond.code x code maxLocals ret, Jvm.Cond.code ({ cls := "com/example/futures_from_states/futuresfromstates/model/Choices", name := "<init>", desc := "()V" } : Jvm.MethodName) prog_50_method_1_code (1 : Nat) (Option.none : Option Jvm.ClassFile.FieldType), Jvm.Cond.code ({ cls := "java/lang/Object", name := "<init>", desc := "()V" } : Jvm.MethodName) object_method_1_code (1 : Nat) (Option.none : Option Jvm.ClassFile.FieldType), Jvm.Cond.code ({ cls := "com/example/futures_from_states/futuresfromstates/model/Choices", name := "choose", desc := "(I)I" } : Jvm.MethodName) prog_50_method_2_code (2 : Nat) (Option.some Jvm.ClassFile.FieldType.int), Jvm.Cond.code ({ cls := "com/example/futures_from_states/futuresfromstates/model/ChoicesNextPinLaw", name := "fits", desc := "(IIIIII)Z" } : Jvm.MethodName) method_4_code (9 : Nat) (Option.some Jvm.ClassFile.FieldType.boolean), Jvm.Cond.code ({ cls := "com/example/futures_from_states/futuresfromstates/model/Choices", name := "next", desc := "()Z" } : Jvm.MethodName) prog_50_method_3_code (2 : Nat) (Option.some Jvm.ClassFile.FieldType.boolean), Jvm.Cond.code ({ cls := "com/example/futures_from_states/futuresfromstates/model/ChoicesNextPinLaw", name := "notLast", desc := "(II)Z" } : Jvm.MethodName) method_3_code (2 : Nat) (Option.some Jvm.ClassFile.FieldType.boolean)]
set_option maxRecDepth 65536 in
theorem codes_eq : words1.filter isCode = codes1 := rfl
theorem w_codes : ∀ c ∈ words1.filter isCode, c.before args0 about1 = true := by
  rw [codes_eq]
  intro c hc
  simp only [codes1, List.mem_cons, List.not_mem_nil, or_false] at hc
  rcases hc with rfl | rfl | rfl | rfl | rfl | rfl | rfl
  · exact w_c0
  · exact w_c1
  · exact w_c2
  · exact w_c3
  · exact w_c4
  · exact w_c5
  · exact w_c6
set_option maxRecDepth 65536 in
theorem w_t1 : (words1.take 24).all (fun c => isCode c || c.before args0 about1) = true := by decide +kernel
set_option maxRecDepth 65536 in
theorem w_t2 : (words1.drop 24).all (fun c => isCode c || c.before args0 about1) = true := by decide +kernel
theorem w_tables : (allAtoms (Jvm.Cond.code x code maxLocals ret :: tables_1)).before args0 about1 = true := by
  rw [allAtoms_all]
  show words1.all (fun c => c.before args0 about1) = true
  refine all_split ?_ w_codes
  rw [← List.take_append_drop 24 words1, List.all_append, w_t1, w_t2]
  rfl
set_option maxRecDepth 65536 in
theorem w_case : (Jvm.Cond.and given_1 narrow_1).before args0 about1 = true := by decide +kernel
theorem w_applies : (headSpec (Jvm.Cond.code x code maxLocals ret :: tables_1) room_1).applies x e0.platform about1 = true :=
  (Spec.applies_iff w_frames).mpr ⟨w_running, w_runnable, w_alone, w_named, w_hears, w_ripe, w_room, w_tables⟩
theorem atStart : AtStart classFile x code maxLocals ret World_1 tables_1 room_1 Calls_1 rest_1 Pre_1 launch0 p0 e0 about1 theMethod args0 below0 :=
  ⟨lists_1, trivial, launch0.admits_env _ _ _, launch0.least_env, fairChoices_fair.cas, fairChoices_fair.clock, w_frames, w_args, w_heap, w_applies, trivial, trivial, w_case⟩
end start1
theorem witness_1 : WitnessClaimed_1 := ⟨start1.p0, start1.e0, start1.about1, start1.theMethod, start1.args0, start1.below0, start1.atStart⟩
end Jvm.Pilot.@@N@@
