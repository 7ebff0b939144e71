import JvmDerived
import JvmDerived.Pilot.@@N@@Statement
import JvmDerived.Pilot.@@N@@Code
set_option linter.unusedVariables false
set_option linter.unusedSimpArgs false
namespace Jvm.Pilot.@@N@@
open Jvm Jvm.ClassFile Sem Op Lib Jvm.Free Jvm.Stand Jvm.LawKit Jvm.RoadKit Bundle Jvm.Pilot.@@N@@.Jvm.D
section OwnArr
variable {p : Program} {l : Launch} {e : Env} {R : Room} {s : State} {m : MethodId} {args : Array Value} {below : List Frame} {meth : Method} {c : Code} {T : State} {locs : List Loc} {cells slots : Nat} {Z : State} {a0 : Array Value} {h : Heap} {a : Addr} {k : ClassId} {z : Int32} {vs : List Value} {dv : Value}
theorem own_ldB (X : Stand p l e R s m args below meth c T locs cells slots) (hx : p.tables.exec = Jvm.exec) (hZ : Z.Warmed39 s.vm) (eT : T.heap = h) (F : Arv Z h a k .byte z vs dv) {j : Int32} (q : ¬ j < 0 ∧ j < z) {v : Value} (u : vs.getD j.toNatClampNeg dv = v) {g : JFrame} (hg : g.method = m) {rest : List Value} (hs : g.stack = .int j :: .ref a :: rest) (hd : decode c.code g.pc = .ok (.baload, 1)) :
    Steps p.tables e below (T.setTop g) (T.setTop { g with pc := g.pc + 1, stack := v :: rest }) := by
  obtain ⟨cl, A, q1, S, N, H, G⟩ := F
  have hin := inb_of S q
  exact X.baloadBytes hx (by rw [eT]; exact A.1) (State.isArrayOf_alike hZ.alike A.2.1) A.2.2 hin (H.at hin u) hg hs hd _ (Steps.refl _)
theorem own_ldI (X : Stand p l e R s m args below meth c T locs cells slots) (hx : p.tables.exec = Jvm.exec) (hZ : Z.Warmed39 s.vm) (eT : T.heap = h) (F : Arv Z h a k .int z vs dv) {j : Int32} (q : ¬ j < 0 ∧ j < z) {v : Value} (u : vs.getD j.toNatClampNeg dv = v) {g : JFrame} (hg : g.method = m) {rest : List Value} (hs : g.stack = .int j :: .ref a :: rest) (hd : decode c.code g.pc = .ok (.iaload, 1)) :
    Steps p.tables e below (T.setTop g) (T.setTop { g with pc := g.pc + 1, stack := v :: rest }) := by
  obtain ⟨cl, A, q1, S, N, H, G⟩ := F
  have hin := inb_of S q
  exact X.iaload hx (by rw [eT]; exact A.1) (State.isArrayOf_alike hZ.alike A.2.1) A.2.2 hin (H.at hin u) hg hs hd _ (Steps.refl _)
theorem own_ldJ (X : Stand p l e R s m args below meth c T locs cells slots) (hx : p.tables.exec = Jvm.exec) (hZ : Z.Warmed39 s.vm) (eT : T.heap = h) (F : Arv Z h a k .long z vs dv) {j : Int32} (q : ¬ j < 0 ∧ j < z) {v : Value} (u : vs.getD j.toNatClampNeg dv = v) {g : JFrame} (hg : g.method = m) {rest : List Value} (hs : g.stack = .int j :: .ref a :: rest) (hd : decode c.code g.pc = .ok (.laload, 1)) :
    Steps p.tables e below (T.setTop g) (T.setTop { g with pc := g.pc + 1, stack := v :: rest }) := by
  obtain ⟨cl, A, q1, S, N, H, G⟩ := F
  have hin := inb_of S q
  exact X.laload hx (by rw [eT]; exact A.1) (State.isArrayOf_alike hZ.alike A.2.1) A.2.2 hin (H.at hin u) hg hs hd _ (Steps.refl _)
theorem own_len {ty : FieldType} (X : Stand p l e R s m args below meth c T locs cells slots) (hx : p.tables.exec = Jvm.exec) (hZ : Z.Warmed39 s.vm) (eT : T.heap = h) (F : Arv Z h a k ty z vs dv) {g : JFrame} (hg : g.method = m) {rest : List Value} (hs : g.stack = .ref a :: rest) (hd : decode c.code g.pc = .ok (.arraylength, 1)) :
    Steps p.tables e below (T.setTop g) (T.setTop { g with pc := g.pc + 1, stack := .int z :: rest }) := by
  obtain ⟨cl, A, q1, S, N, H, G⟩ := F
  have q := X.arraylength hx (by rw [eT]; exact A.1) (State.isArrayOf_alike hZ.alike A.2.1) hg hs hd _ (Steps.refl _)
  rw [len_of S N] at q
  exact q
theorem own_stB (X : Stand p l e R s m args below meth c T locs cells slots) (hx : p.tables.exec = Jvm.exec) (hZ : Z.Warmed39 s.vm) (eT : T.heap = h) (F : Arv Z h a k .byte z vs dv) {j x : Int32} (q : ¬ j < 0 ∧ j < z) (i : Nat) (hj : j.toNatClampNeg = i) (hi : i < vs.length) {g : JFrame} (hg : g.method = m) {rest : List Value} (hs : g.stack = .int x :: .int j :: .ref a :: rest) (hd : decode c.code g.pc = .ok (.bastore, 1)) :
    ∃ T' h', Stand p l e R s m args below meth c T' (locs ++ [⟨a, j.toNatClampNeg⟩]) cells slots ∧ T'.heap = h' ∧ Wr h h' a j.toNatClampNeg (.int (x.toInt8.toInt32)) ∧ Arv Z h' a k .byte z (vs.set i (.int (x.toInt8.toInt32))) dv ∧ Steps p.tables e below (T.setTop g) (T'.setTop { g with pc := g.pc + 1, stack := rest }) := by
  obtain ⟨cl, A, q1, S, N, H, G⟩ := F
  have hin := inb_of S q
  obtain ⟨T', h', X', e', W, st⟩ := stB X hx hZ eT A hin hg hs hd
  exact ⟨T', h', X', e', W, Arv.set A q1 S N H G (fits_nar_byte _) W i hj hi, st _ (Steps.refl _)⟩
theorem own_stI (X : Stand p l e R s m args below meth c T locs cells slots) (hx : p.tables.exec = Jvm.exec) (hZ : Z.Warmed39 s.vm) (eT : T.heap = h) (F : Arv Z h a k .int z vs dv) {j x : Int32} (q : ¬ j < 0 ∧ j < z) (i : Nat) (hj : j.toNatClampNeg = i) (hi : i < vs.length) {g : JFrame} (hg : g.method = m) {rest : List Value} (hs : g.stack = .int x :: .int j :: .ref a :: rest) (hd : decode c.code g.pc = .ok (.iastore, 1)) :
    ∃ T' h', Stand p l e R s m args below meth c T' (locs ++ [⟨a, j.toNatClampNeg⟩]) cells slots ∧ T'.heap = h' ∧ Wr h h' a j.toNatClampNeg (.int x) ∧ Arv Z h' a k .int z (vs.set i (.int x)) dv ∧ Steps p.tables e below (T.setTop g) (T'.setTop { g with pc := g.pc + 1, stack := rest }) := by
  obtain ⟨cl, A, q1, S, N, H, G⟩ := F
  have hin := inb_of S q
  obtain ⟨T', h', X', e', W, st⟩ := stI X hx hZ eT A hin hg hs hd
  exact ⟨T', h', X', e', W, Arv.set A q1 S N H G rfl W i hj hi, st _ (Steps.refl _)⟩
theorem own_stJ (X : Stand p l e R s m args below meth c T locs cells slots) (hx : p.tables.exec = Jvm.exec) (hZ : Z.Warmed39 s.vm) (eT : T.heap = h) (F : Arv Z h a k .long z vs dv) {j : Int32} {x : Int64} (q : ¬ j < 0 ∧ j < z) (i : Nat) (hj : j.toNatClampNeg = i) (hi : i < vs.length) {g : JFrame} (hg : g.method = m) {rest : List Value} (hs : g.stack = .long x :: .int j :: .ref a :: rest) (hd : decode c.code g.pc = .ok (.lastore, 1)) :
    ∃ T' h', Stand p l e R s m args below meth c T' (locs ++ [⟨a, j.toNatClampNeg⟩]) cells slots ∧ T'.heap = h' ∧ Wr h h' a j.toNatClampNeg (.long x) ∧ Arv Z h' a k .long z (vs.set i (.long x)) dv ∧ Steps p.tables e below (T.setTop g) (T'.setTop { g with pc := g.pc + 1, stack := rest }) := by
  obtain ⟨cl, A, q1, S, N, H, G⟩ := F
  have hin := inb_of S q
  obtain ⟨T', h', X', e', W, st⟩ := stJ X hx hZ eT A hin hg hs hd
  exact ⟨T', h', X', e', W, Arv.set A q1 S N H G rfl W i hj hi, st _ (Steps.refl _)⟩
theorem own_newB (X : Stand p l e R s m args below meth c T locs cells slots) (hx : p.tables.exec = Jvm.exec) (hZ : Z.Warmed39 s.vm) (w : (Jvm.Cond.arrayClass .byte).before a0 Z = true) (eT : T.heap = h) {g : JFrame} (hg : g.method = m) (hd : decode c.code g.pc = .ok (.newarray .byte, 2)) {n : Int32} {rest : List Value} (hs : g.stack = .int n :: rest)
    (hn : ¬ n < 0) (N : Nat) (hcap : n.toNatClampNeg ≤ N) (hb : N * 8 ≤ 536870912) (hc : cells + 1 ≤ R.cells) (hl : slots + N ≤ R.slots) :
    ∃ T' h' k x, Stand p l e R s m args below meth c T' locs (cells + 1) (slots + N) ∧ T'.heap = h' ∧ Ext h h' ∧ x = h.size ∧ Arv Z h' x k .byte n (List.replicate N (.int (0 : Int32))) (.int (0 : Int32)) ∧ Exa Z h' x "[B" ∧ Steps p.tables e below (T.setTop g) (T'.setTop { g with pc := g.pc + 2, stack := .ref x :: rest }) := by
  obtain ⟨T', h', k, X', e', E, A, Ex, st⟩ := newPE (aty := .byte) X hx hZ w eT hg hd hs hn hcap hb hc hl (ad := "[B") (by decide)
  exact ⟨T', h', k, _, X', e', E, rfl, (Arv.new A hn).pad (pad_rep [] _ N), Ex, st _ (Steps.refl _)⟩
theorem own_newI (X : Stand p l e R s m args below meth c T locs cells slots) (hx : p.tables.exec = Jvm.exec) (hZ : Z.Warmed39 s.vm) (w : (Jvm.Cond.arrayClass .int).before a0 Z = true) (eT : T.heap = h) {g : JFrame} (hg : g.method = m) (hd : decode c.code g.pc = .ok (.newarray .int, 2)) {n : Int32} {rest : List Value} (hs : g.stack = .int n :: rest)
    (hn : ¬ n < 0) (N : Nat) (hcap : n.toNatClampNeg ≤ N) (hb : N * 8 ≤ 536870912) (hc : cells + 1 ≤ R.cells) (hl : slots + N ≤ R.slots) :
    ∃ T' h' k x, Stand p l e R s m args below meth c T' locs (cells + 1) (slots + N) ∧ T'.heap = h' ∧ Ext h h' ∧ x = h.size ∧ Arv Z h' x k .int n (List.replicate N (.int (0 : Int32))) (.int (0 : Int32)) ∧ Exa Z h' x "[I" ∧ Steps p.tables e below (T.setTop g) (T'.setTop { g with pc := g.pc + 2, stack := .ref x :: rest }) := by
  obtain ⟨T', h', k, X', e', E, A, Ex, st⟩ := newPE (aty := .int) X hx hZ w eT hg hd hs hn hcap hb hc hl (ad := "[I") (by decide)
  exact ⟨T', h', k, _, X', e', E, rfl, (Arv.new A hn).pad (pad_rep [] _ N), Ex, st _ (Steps.refl _)⟩
theorem own_newJ (X : Stand p l e R s m args below meth c T locs cells slots) (hx : p.tables.exec = Jvm.exec) (hZ : Z.Warmed39 s.vm) (w : (Jvm.Cond.arrayClass .long).before a0 Z = true) (eT : T.heap = h) {g : JFrame} (hg : g.method = m) (hd : decode c.code g.pc = .ok (.newarray .long, 2)) {n : Int32} {rest : List Value} (hs : g.stack = .int n :: rest)
    (hn : ¬ n < 0) (N : Nat) (hcap : n.toNatClampNeg ≤ N) (hb : N * 8 ≤ 536870912) (hc : cells + 1 ≤ R.cells) (hl : slots + N ≤ R.slots) :
    ∃ T' h' k x, Stand p l e R s m args below meth c T' locs (cells + 1) (slots + N) ∧ T'.heap = h' ∧ Ext h h' ∧ x = h.size ∧ Arv Z h' x k .long n (List.replicate N (.long (0 : Int64))) (.long (0 : Int64)) ∧ Exa Z h' x "[J" ∧ Steps p.tables e below (T.setTop g) (T'.setTop { g with pc := g.pc + 2, stack := .ref x :: rest }) := by
  obtain ⟨T', h', k, X', e', E, A, Ex, st⟩ := newPE (aty := .long) X hx hZ w eT hg hd hs hn hcap hb hc hl (ad := "[J") (by decide)
  exact ⟨T', h', k, _, X', e', E, rfl, (Arv.new A hn).pad (pad_rep [] _ N), Ex, st _ (Steps.refl _)⟩
end OwnArr
theorem own_and1 (p : Int32) : (p &&& (1 : Int32)) = (0 : Int32) ∨ (p &&& (1 : Int32)) = (1 : Int32) := Jvm.RoadKit.and_one p
theorem own_inb (p : Int32) : (¬ ((p &&& (1 : Int32)) < (0 : Int32))) ∧ (p &&& (1 : Int32)) < (2 : Int32) := by
  rcases own_and1 p with h | h <;> rw [h] <;> decide
theorem own_sel (p a b : Int32) : [Value.int a, Value.int b].getD (p &&& (1 : Int32)).toNatClampNeg (Value.int (0 : Int32)) = Value.int (if (p &&& (1 : Int32)) = (0 : Int32) then a else b) := by
  rcases own_and1 p with h | h <;> rw [h] <;> rfl
theorem own_lt32 {a b : Int32} : a < b ↔ a.toInt < b.toInt := Int32.lt_iff_toInt_lt
theorem own_lt64 {a b : Int64} : a < b ↔ a.toInt < b.toInt := Int64.lt_iff_toInt_lt
theorem own_sb (a b : Int32) : ((a.toInt64) - (b.toInt64)) < (0 : Int64) ↔ a < b := by
  rw [own_lt64, own_lt32]
  have h1 := Jvm.RoadKit.c_lsub a.toInt64 b.toInt64
  have h2 := Jvm.RoadKit.c_i2l a
  have h3 := Jvm.RoadKit.c_i2l b
  have h4 := Jvm.RoadKit.rng32 a
  have h5 := Jvm.RoadKit.rng32 b
  have h6 := Jvm.RoadKit.rng64 (a.toInt64 - b.toInt64)
  have e : (0 : Int64).toInt = 0 := rfl
  omega
theorem own_lw (a b : Int32) : (a.toInt64) < (b.toInt64) ↔ a < b := by
  rw [own_lt64, own_lt32, Jvm.RoadKit.c_i2l, Jvm.RoadKit.c_i2l]
theorem own_dn (a : Int32) (h : (-2147483648 : Int64) < a.toInt64) : ((a.toInt64 - (1 : Int64)).toInt32) < a := by
  rw [own_lt64, Jvm.RoadKit.c_i2l] at h
  have h1 := Jvm.RoadKit.c_lsub a.toInt64 (1 : Int64)
  have h2 := Jvm.RoadKit.c_i2l a
  have h3 := Jvm.RoadKit.c_l2i (a.toInt64 - (1 : Int64))
  have h4 := Jvm.RoadKit.rng32 a
  have h5 := Jvm.RoadKit.rng32 ((a.toInt64 - (1 : Int64)).toInt32)
  have h6 := Jvm.RoadKit.rng64 (a.toInt64 - (1 : Int64))
  have e : (1 : Int64).toInt = 1 := rfl
  have e2 : (-2147483648 : Int64).toInt = -2147483648 := rfl
  rw [own_lt32]; omega
theorem own_up (a : Int32) (h : a.toInt64 < (2147483647 : Int64)) : a < ((a.toInt64 + (1 : Int64)).toInt32) := by
  rw [own_lt64, Jvm.RoadKit.c_i2l] at h
  have h1 := Jvm.RoadKit.c_ladd a.toInt64 (1 : Int64)
  have h2 := Jvm.RoadKit.c_i2l a
  have h3 := Jvm.RoadKit.c_l2i (a.toInt64 + (1 : Int64))
  have h4 := Jvm.RoadKit.rng32 a
  have h5 := Jvm.RoadKit.rng32 ((a.toInt64 + (1 : Int64)).toInt32)
  have h6 := Jvm.RoadKit.rng64 (a.toInt64 + (1 : Int64))
  have e : (1 : Int64).toInt = 1 := rfl
  have e2 : (2147483647 : Int64).toInt = 2147483647 := rfl
  rw [own_lt32]; omega
theorem d1_0 : decode prog_47_method_1_code 0 = .ok (.aload_n 0, 1) := by decide +kernel
theorem d1_1 : decode prog_47_method_1_code 1 = .ok (.invokespecial 1, 3) := by decide +kernel
theorem d1_4 : decode prog_47_method_1_code 4 = .ok (.aload_n 0, 1) := by decide +kernel
theorem d1_5 : decode prog_47_method_1_code 5 = .ok (.aload_n 1, 1) := by decide +kernel
theorem d1_6 : decode prog_47_method_1_code 6 = .ok (.putfield 7, 3) := by decide +kernel
theorem d1_9 : decode prog_47_method_1_code 9 = .ok (.aload_n 0, 1) := by decide +kernel
theorem d1_10 : decode prog_47_method_1_code 10 = .ok (.aload_n 2, 1) := by decide +kernel
theorem d1_11 : decode prog_47_method_1_code 11 = .ok (.putfield 13, 3) := by decide +kernel
theorem d1_14 : decode prog_47_method_1_code 14 = .ok (.aload_n 0, 1) := by decide +kernel
theorem d1_15 : decode prog_47_method_1_code 15 = .ok (.aload_n 3, 1) := by decide +kernel
theorem d1_16 : decode prog_47_method_1_code 16 = .ok (.putfield 17, 3) := by decide +kernel
theorem d1_19 : decode prog_47_method_1_code 19 = .ok (.aload_n 0, 1) := by decide +kernel
theorem d1_20 : decode prog_47_method_1_code 20 = .ok (.iload 4, 2) := by decide +kernel
theorem d1_22 : decode prog_47_method_1_code 22 = .ok (.putfield 20, 3) := by decide +kernel
theorem d1_25 : decode prog_47_method_1_code 25 = .ok (.aload_n 0, 1) := by decide +kernel
theorem d1_26 : decode prog_47_method_1_code 26 = .ok (.aload_n 2, 1) := by decide +kernel
theorem d1_27 : decode prog_47_method_1_code 27 = .ok (.arraylength, 1) := by decide +kernel
theorem d1_28 : decode prog_47_method_1_code 28 = .ok (.newarray .int, 2) := by decide +kernel
theorem d1_30 : decode prog_47_method_1_code 30 = .ok (.putfield 24, 3) := by decide +kernel
theorem d1_33 : decode prog_47_method_1_code 33 = .ok (.iconst 1, 1) := by decide +kernel
theorem d1_34 : decode prog_47_method_1_code 34 = .ok (.istore 5, 2) := by decide +kernel
theorem d1_36 : decode prog_47_method_1_code 36 = .ok (.aload_n 2, 1) := by decide +kernel
theorem d1_37 : decode prog_47_method_1_code 37 = .ok (.arraylength, 1) := by decide +kernel
theorem d1_38 : decode prog_47_method_1_code 38 = .ok (.iconst 1, 1) := by decide +kernel
theorem d1_39 : decode prog_47_method_1_code 39 = .ok (.isub, 1) := by decide +kernel
theorem d1_40 : decode prog_47_method_1_code 40 = .ok (.istore 6, 2) := by decide +kernel
theorem d1_42 : decode prog_47_method_1_code 42 = .ok (.iload 6, 2) := by decide +kernel
theorem d1_44 : decode prog_47_method_1_code 44 = .ok (.ifCond .lt 34, 3) := by decide +kernel
theorem d1_47 : decode prog_47_method_1_code 47 = .ok (.aload_n 0, 1) := by decide +kernel
theorem d1_48 : decode prog_47_method_1_code 48 = .ok (.getfield 24, 3) := by decide +kernel
theorem d1_51 : decode prog_47_method_1_code 51 = .ok (.iload 6, 2) := by decide +kernel
theorem d1_53 : decode prog_47_method_1_code 53 = .ok (.iload 5, 2) := by decide +kernel
theorem d1_55 : decode prog_47_method_1_code 55 = .ok (.iastore, 1) := by decide +kernel
theorem d1_56 : decode prog_47_method_1_code 56 = .ok (.iload 5, 2) := by decide +kernel
theorem d1_58 : decode prog_47_method_1_code 58 = .ok (.aload_n 3, 1) := by decide +kernel
theorem d1_59 : decode prog_47_method_1_code 59 = .ok (.iload 6, 2) := by decide +kernel
theorem d1_61 : decode prog_47_method_1_code 61 = .ok (.iaload, 1) := by decide +kernel
theorem d1_62 : decode prog_47_method_1_code 62 = .ok (.aload_n 2, 1) := by decide +kernel
theorem d1_63 : decode prog_47_method_1_code 63 = .ok (.iload 6, 2) := by decide +kernel
theorem d1_65 : decode prog_47_method_1_code 65 = .ok (.iaload, 1) := by decide +kernel
theorem d1_66 : decode prog_47_method_1_code 66 = .ok (.isub, 1) := by decide +kernel
theorem d1_67 : decode prog_47_method_1_code 67 = .ok (.iconst 1, 1) := by decide +kernel
theorem d1_68 : decode prog_47_method_1_code 68 = .ok (.iadd, 1) := by decide +kernel
theorem d1_69 : decode prog_47_method_1_code 69 = .ok (.imul, 1) := by decide +kernel
theorem d1_70 : decode prog_47_method_1_code 70 = .ok (.istore 5, 2) := by decide +kernel
theorem d1_72 : decode prog_47_method_1_code 72 = .ok (.iinc 6 (-1), 3) := by decide +kernel
theorem d1_75 : decode prog_47_method_1_code 75 = .ok (.goto (-33), 3) := by decide +kernel
def Q_rm1 (Z : State) (o0 : Addr) (o1 : Addr) (o2 : Addr) (o3 : Addr) (p4 : Int32) (k2 : ClassId) (w0 : Int32) (w1 : Int32) (k3 : ClassId) (x0 : Int32) (x1 : Int32) (u11_name : Value) (u12_lows : Value) (u13_highs : Value) (u14_firstSlot : Value) (u15_strides : Value) (h0 : Heap) (n0 : Nat) (v : Option Value) (h : Heap) (L : List Loc) : Prop := ∃ b24 : Addr, ∃ k24 : ClassId, v = none ∧ Fr n0 L ∧ Keep h0 h [o0] ∧ Exa Z h o0 "com/example/futures_from_states/futuresfromstates/model/ArrayVariable" ∧ Fld Z h o0 "com/example/futures_from_states/futuresfromstates/model/ArrayVariable" "name" "Ljava/lang/String;" (.ref o1) ∧ Fld Z h o0 "com/example/futures_from_states/futuresfromstates/model/ArrayVariable" "lows" "[I" (.ref o2) ∧ Fld Z h o0 "com/example/futures_from_states/futuresfromstates/model/ArrayVariable" "highs" "[I" (.ref o3) ∧ Fld Z h o0 "com/example/futures_from_states/futuresfromstates/model/ArrayVariable" "firstSlot" "I" (.int p4) ∧ Arv Z h b24 k24 .int (2 : Int32) [(.int ((1 : Int32) * ((x1 - w1) + (1 : Int32)))), (.int (1 : Int32))] (.int (0 : Int32)) ∧ Exa Z h b24 "[I" ∧ Fld Z h o0 "com/example/futures_from_states/futuresfromstates/model/ArrayVariable" "strides" "[I" (.ref b24) ∧ h0.size ≤ b24
theorem pn_1 : plainName "com/example/futures_from_states/futuresfromstates/model/ArrayVariable" = true := by first | (simp [plainName, overriddenIn]; done) | decide +kernel
theorem ef_1 (m : MethodId) (x0 : Addr) (x1 : Addr) (x2 : Addr) (x3 : Addr) (x4 : Int32) : entryFrame m #[(.ref x0), (.ref x1), (.ref x2), (.ref x3), (.int x4)] 7 = mkF m 0 #[.val (.ref x0), .val (.ref x1), .val (.ref x2), .val (.ref x3), .val (.int x4), .unset, .unset] [] := by first | (simp [entryFrame, mkF, argsToLocals, Value.category]; done) | rfl
theorem d1_78 : decode prog_47_method_1_code 78 = .ok (.return_, 1) := by decide +kernel
set_option maxRecDepth 65536 in
set_option maxHeartbeats 40000000 in
theorem rm1 (l : Launch) (Z : State) (a0 : Array Value) (hw : ∀ d ∈ tables_1, d.before a0 Z = true) (ws : List Jvm.Cond) (o0 : Addr) (o1 : Addr) (o2 : Addr) (o3 : Addr) (p4 : Int32) (k2 : ClassId) (w0 : Int32) (w1 : Int32) (k3 : ClassId) (x0 : Int32) (x1 : Int32) (u11_name : Value) (u12_lows : Value) (u13_highs : Value) (u14_firstSlot : Value) (u15_strides : Value) (h0 : Heap) (n0 : Nat) (Z0 : n0 ≤ h0.size) (E_o0 : Exa Z h0 o0 "com/example/futures_from_states/futuresfromstates/model/ArrayVariable") (V_o2 : Arv Z h0 o2 k2 .int (2 : Int32) [(.int w0), (.int w1)] (.int (0 : Int32))) (V_o3 : Arv Z h0 o3 k3 .int (2 : Int32) [(.int x0), (.int x1)] (.int (0 : Int32))) (ne_o0_o2 : o0 ≠ o2) (ne_o0_o3 : o0 ≠ o3) (g_o0 : n0 ≤ o0) (F_name_o0 : Fld Z h0 o0 "com/example/futures_from_states/futuresfromstates/model/ArrayVariable" "name" "Ljava/lang/String;" u11_name) (F_lows_o0 : Fld Z h0 o0 "com/example/futures_from_states/futuresfromstates/model/ArrayVariable" "lows" "[I" u12_lows) (F_highs_o0 : Fld Z h0 o0 "com/example/futures_from_states/futuresfromstates/model/ArrayVariable" "highs" "[I" u13_highs) (F_firstSlot_o0 : Fld Z h0 o0 "com/example/futures_from_states/futuresfromstates/model/ArrayVariable" "firstSlot" "I" u14_firstSlot) (F_strides_o0 : Fld Z h0 o0 "com/example/futures_from_states/futuresfromstates/model/ArrayVariable" "strides" "[I" u15_strides) :
    MetFree l (⟨"com/example/futures_from_states/futuresfromstates/model/ArrayVariable", "<init>", "(Ljava/lang/String;[I[II)V"⟩ : MethodName) (head1 (Jvm.Cond.code (⟨"com/example/futures_from_states/futuresfromstates/model/ArrayVariable", "<init>", "(Ljava/lang/String;[I[II)V"⟩ : MethodName) prog_47_method_1_code 7 none :: ws) ({ frames := 1, cells := 1, slots := 2, locals := 12 } : Room)) (fun a U => a = #[(.ref o0), (.ref o1), (.ref o2), (.ref o3), (.int p4)] ∧ Z.Warmed39 U.vm ∧ U.heap = h0) (fun _ _ _ _ _ => True) (fun _ U o U' => ∃ v L, o = .returned v ∧ Q_rm1 Z o0 o1 o2 o3 p4 k2 w0 w1 k3 x0 x1 u11_name u12_lows u13_highs u14_firstSlot u15_strides h0 n0 v U'.heap L ∧ FrameEnd U o U' L ({ frames := 1, cells := 1, slots := 2, locals := 12 } : Room).cells ({ frames := 1, cells := 1, slots := 2, locals := 12 } : Room).slots) := by
  refine MetFree.of_bodySF (plainFor_of_name pn_1) hisR ?_
  intro p e s m args below meth c s₁ Bd hml0 hP hK
  obtain ⟨rfl, hZ, hh⟩ := hP
  have hx := Bd.exec
  have hby := Bd.bytes
  have hml : c.maxLocals = 7 := hml0
  have hown : s.vm.findClass "com/example/futures_from_states/futuresfromstates/model/ArrayVariable" = some m.cls := findClass_of_methodNamed Bd.named
  have hnm := (name_of_methodNamed Bd.named Bd.method).1
  have X0 : Stand p l e ({ frames := 1, cells := 1, slots := 2, locals := 12 } : Room) s m #[(.ref o0), (.ref o1), (.ref o2), (.ref o3), (.int p4)] below meth c s₁ [] 0 0 := Stand.of_body Bd
  have e0 : s₁.heap = h0 := by rw [← hh, Bd.state]; rfl
  have N0 := Fr.nil n0
  have Kp0 : Keep h0 h0 [o0] := Keep.refl _ _
  have K0 : Steps p.tables e below (s₁.setTop (entryFrame m #[(.ref o0), (.ref o1), (.ref o2), (.ref o3), (.int p4)] 7)) (s₁.setTop (mkF m 0 #[.val (.ref o0), .val (.ref o1), .val (.ref o2), .val (.ref o3), .val (.int p4), .unset, .unset] [])) := castTop (ef_1 m o0 o1 o2 o3 p4) (Steps.refl _)
  have K1 : Steps p.tables e below _ (s₁.setTop (mkF m 1 #[.val (.ref o0), .val (.ref o1), .val (.ref o2), .val (.ref o3), .val (.int p4), .unset, .unset] [(.ref o0)])) := K0.trans (by
    show Steps p.tables e below (s₁.setTop (mkF m 0 #[.val (.ref o0), .val (.ref o1), .val (.ref o2), .val (.ref o3), .val (.int p4), .unset, .unset] [])) _
    refine XS.aloadN X0.here hx rfl (hb hby d1_0) rfl rfl ?_
    show Steps p.tables e below (s₁.setTop (mkF m 1 #[.val (.ref o0), .val (.ref o1), .val (.ref o2), .val (.ref o3), .val (.int p4), .unset, .unset] [(.ref o0)])) _
    exact Steps.refl _)
  obtain ⟨T2, X2, e2, st2⟩ := initO X0 hx hZ hown (hw _ (List.mem_of_getElem? (i := 15) rfl)) (hw _ (List.mem_of_getElem? (i := 16) rfl)) (hw _ (List.mem_of_getElem? (i := 17) rfl)) e0 (g := (mkF m 1 #[.val (.ref o0), .val (.ref o1), .val (.ref o2), .val (.ref o3), .val (.int p4), .unset, .unset] [(.ref o0)])) rfl (by rw [hml]; rfl) rfl (hb hby d1_1) (by decide) (W := 0) (by show 2 * 0 + _ ≤ _; exact Nat.le_of_eq rfl) (by decide)
  have K3 : Steps p.tables e below _ (T2.setTop (mkF m 4 #[.val (.ref o0), .val (.ref o1), .val (.ref o2), .val (.ref o3), .val (.int p4), .unset, .unset] [])) := K1.trans (st2 _ (Steps.refl _))
  have K4 : Steps p.tables e below _ (T2.setTop (mkF m 6 #[.val (.ref o0), .val (.ref o1), .val (.ref o2), .val (.ref o3), .val (.int p4), .unset, .unset] [(.ref o1), (.ref o0)])) := K3.trans (by
    show Steps p.tables e below (T2.setTop (mkF m 4 #[.val (.ref o0), .val (.ref o1), .val (.ref o2), .val (.ref o3), .val (.int p4), .unset, .unset] [])) _
    refine XS.aloadN X2.here hx rfl (hb hby d1_4) rfl rfl ?_
    show Steps p.tables e below (T2.setTop (mkF m 5 #[.val (.ref o0), .val (.ref o1), .val (.ref o2), .val (.ref o3), .val (.int p4), .unset, .unset] [(.ref o0)])) _
    refine XS.aloadN X2.here hx rfl (hb hby d1_5) rfl rfl ?_
    show Steps p.tables e below (T2.setTop (mkF m 6 #[.val (.ref o0), .val (.ref o1), .val (.ref o2), .val (.ref o3), .val (.int p4), .unset, .unset] [(.ref o1), (.ref o0)])) _
    exact Steps.refl _)
  obtain ⟨T5, h5, X5, e5, W5, st5⟩ := putF X2 hx hZ hown (host := "") (Or.inl (hw _ (List.mem_of_getElem? (i := 18) rfl))) Via.refl e2 F_name_o0 E_o0 (Or.inr ⟨(hw _ (List.mem_of_getElem? (i := 19) rfl)), rfl, hnm⟩) (hw _ (List.mem_of_getElem? (i := 2) rfl)) (ty := (.object "java/lang/String")) (by decide) rfl rfl (g := (mkF m 6 #[.val (.ref o0), .val (.ref o1), .val (.ref o2), .val (.ref o3), .val (.int p4), .unset, .unset] [(.ref o1), (.ref o0)])) rfl rfl (hb hby d1_6)
  have K6 : Steps p.tables e below _ (T5.setTop (mkF m 9 #[.val (.ref o0), .val (.ref o1), .val (.ref o2), .val (.ref o3), .val (.int p4), .unset, .unset] [])) := K4.trans (st5 _ (Steps.refl _))
  have Fw5 : Fld Z h5 o0 "com/example/futures_from_states/futuresfromstates/model/ArrayVariable" "name" "Ljava/lang/String;" (.ref o1) := F_name_o0.same W5
  have N5 := Fr.snoc X5 N0 g_o0
  have K7 : Steps p.tables e below _ (T5.setTop (mkF m 11 #[.val (.ref o0), .val (.ref o1), .val (.ref o2), .val (.ref o3), .val (.int p4), .unset, .unset] [(.ref o2), (.ref o0)])) := K6.trans (by
    show Steps p.tables e below (T5.setTop (mkF m 9 #[.val (.ref o0), .val (.ref o1), .val (.ref o2), .val (.ref o3), .val (.int p4), .unset, .unset] [])) _
    refine XS.aloadN X5.here hx rfl (hb hby d1_9) rfl rfl ?_
    show Steps p.tables e below (T5.setTop (mkF m 10 #[.val (.ref o0), .val (.ref o1), .val (.ref o2), .val (.ref o3), .val (.int p4), .unset, .unset] [(.ref o0)])) _
    refine XS.aloadN X5.here hx rfl (hb hby d1_10) rfl rfl ?_
    show Steps p.tables e below (T5.setTop (mkF m 11 #[.val (.ref o0), .val (.ref o1), .val (.ref o2), .val (.ref o3), .val (.int p4), .unset, .unset] [(.ref o2), (.ref o0)])) _
    exact Steps.refl _)
  have E_8 : Exa Z h5 o0 "com/example/futures_from_states/futuresfromstates/model/ArrayVariable" := (E_o0.wr W5)
  have F_9 : Fld Z h5 o0 "com/example/futures_from_states/futuresfromstates/model/ArrayVariable" "lows" "[I" u12_lows := (F_lows_o0.other W5 (Or.inr (slot_ne (Or.inr (hw _ (List.mem_of_getElem? (i := 21) rfl))) (Or.inr (hw _ (List.mem_of_getElem? (i := 19) rfl))) (by decide) (t := (.array .int)) (t' := (.object "java/lang/String")) (by decide) (by decide))))
  obtain ⟨T10, h10, X10, e10, W10, st10⟩ := putF X5 hx hZ hown (host := "") (Or.inl (hw _ (List.mem_of_getElem? (i := 20) rfl))) Via.refl e5 F_9 E_8 (Or.inr ⟨(hw _ (List.mem_of_getElem? (i := 21) rfl)), rfl, hnm⟩) (hw _ (List.mem_of_getElem? (i := 2) rfl)) (ty := (.array .int)) (by decide) rfl rfl (g := (mkF m 11 #[.val (.ref o0), .val (.ref o1), .val (.ref o2), .val (.ref o3), .val (.int p4), .unset, .unset] [(.ref o2), (.ref o0)])) rfl rfl (hb hby d1_11)
  have K11 : Steps p.tables e below _ (T10.setTop (mkF m 14 #[.val (.ref o0), .val (.ref o1), .val (.ref o2), .val (.ref o3), .val (.int p4), .unset, .unset] [])) := K7.trans (st10 _ (Steps.refl _))
  have Fw10 : Fld Z h10 o0 "com/example/futures_from_states/futuresfromstates/model/ArrayVariable" "lows" "[I" (.ref o2) := F_9.same W10
  have N10 := Fr.snoc X10 N5 g_o0
  have K12 : Steps p.tables e below _ (T10.setTop (mkF m 16 #[.val (.ref o0), .val (.ref o1), .val (.ref o2), .val (.ref o3), .val (.int p4), .unset, .unset] [(.ref o3), (.ref o0)])) := K11.trans (by
    show Steps p.tables e below (T10.setTop (mkF m 14 #[.val (.ref o0), .val (.ref o1), .val (.ref o2), .val (.ref o3), .val (.int p4), .unset, .unset] [])) _
    refine XS.aloadN X10.here hx rfl (hb hby d1_14) rfl rfl ?_
    show Steps p.tables e below (T10.setTop (mkF m 15 #[.val (.ref o0), .val (.ref o1), .val (.ref o2), .val (.ref o3), .val (.int p4), .unset, .unset] [(.ref o0)])) _
    refine XS.aloadN X10.here hx rfl (hb hby d1_15) rfl rfl ?_
    show Steps p.tables e below (T10.setTop (mkF m 16 #[.val (.ref o0), .val (.ref o1), .val (.ref o2), .val (.ref o3), .val (.int p4), .unset, .unset] [(.ref o3), (.ref o0)])) _
    exact Steps.refl _)
  have E_13 : Exa Z h10 o0 "com/example/futures_from_states/futuresfromstates/model/ArrayVariable" := (E_8.wr W10)
  have F_14 : Fld Z h10 o0 "com/example/futures_from_states/futuresfromstates/model/ArrayVariable" "highs" "[I" u13_highs := ((F_highs_o0.other W5 (Or.inr (slot_ne (Or.inr (hw _ (List.mem_of_getElem? (i := 23) rfl))) (Or.inr (hw _ (List.mem_of_getElem? (i := 19) rfl))) (by decide) (t := (.array .int)) (t' := (.object "java/lang/String")) (by decide) (by decide)))).other W10 (Or.inr (slot_ne (Or.inr (hw _ (List.mem_of_getElem? (i := 23) rfl))) (Or.inr (hw _ (List.mem_of_getElem? (i := 21) rfl))) (by decide) (t := (.array .int)) (t' := (.array .int)) (by decide) (by decide))))
  obtain ⟨T15, h15, X15, e15, W15, st15⟩ := putF X10 hx hZ hown (host := "") (Or.inl (hw _ (List.mem_of_getElem? (i := 22) rfl))) Via.refl e10 F_14 E_13 (Or.inr ⟨(hw _ (List.mem_of_getElem? (i := 23) rfl)), rfl, hnm⟩) (hw _ (List.mem_of_getElem? (i := 2) rfl)) (ty := (.array .int)) (by decide) rfl rfl (g := (mkF m 16 #[.val (.ref o0), .val (.ref o1), .val (.ref o2), .val (.ref o3), .val (.int p4), .unset, .unset] [(.ref o3), (.ref o0)])) rfl rfl (hb hby d1_16)
  have K16 : Steps p.tables e below _ (T15.setTop (mkF m 19 #[.val (.ref o0), .val (.ref o1), .val (.ref o2), .val (.ref o3), .val (.int p4), .unset, .unset] [])) := K12.trans (st15 _ (Steps.refl _))
  have Fw15 : Fld Z h15 o0 "com/example/futures_from_states/futuresfromstates/model/ArrayVariable" "highs" "[I" (.ref o3) := F_14.same W15
  have N15 := Fr.snoc X15 N10 g_o0
  have K17 : Steps p.tables e below _ (T15.setTop (mkF m 22 #[.val (.ref o0), .val (.ref o1), .val (.ref o2), .val (.ref o3), .val (.int p4), .unset, .unset] [(.int p4), (.ref o0)])) := K16.trans (by
    show Steps p.tables e below (T15.setTop (mkF m 19 #[.val (.ref o0), .val (.ref o1), .val (.ref o2), .val (.ref o3), .val (.int p4), .unset, .unset] [])) _
    refine XS.aloadN X15.here hx rfl (hb hby d1_19) rfl rfl ?_
    show Steps p.tables e below (T15.setTop (mkF m 20 #[.val (.ref o0), .val (.ref o1), .val (.ref o2), .val (.ref o3), .val (.int p4), .unset, .unset] [(.ref o0)])) _
    refine XS.iload X15.here hx rfl (hb hby d1_20) rfl ?_
    show Steps p.tables e below (T15.setTop (mkF m 22 #[.val (.ref o0), .val (.ref o1), .val (.ref o2), .val (.ref o3), .val (.int p4), .unset, .unset] [(.int p4), (.ref o0)])) _
    exact Steps.refl _)
  have E_18 : Exa Z h15 o0 "com/example/futures_from_states/futuresfromstates/model/ArrayVariable" := (E_13.wr W15)
  have F_19 : Fld Z h15 o0 "com/example/futures_from_states/futuresfromstates/model/ArrayVariable" "firstSlot" "I" u14_firstSlot := (((F_firstSlot_o0.other W5 (Or.inr (slot_ne (Or.inr (hw _ (List.mem_of_getElem? (i := 25) rfl))) (Or.inr (hw _ (List.mem_of_getElem? (i := 19) rfl))) (by decide) (t := .int) (t' := (.object "java/lang/String")) (by decide) (by decide)))).other W10 (Or.inr (slot_ne (Or.inr (hw _ (List.mem_of_getElem? (i := 25) rfl))) (Or.inr (hw _ (List.mem_of_getElem? (i := 21) rfl))) (by decide) (t := .int) (t' := (.array .int)) (by decide) (by decide)))).other W15 (Or.inr (slot_ne (Or.inr (hw _ (List.mem_of_getElem? (i := 25) rfl))) (Or.inr (hw _ (List.mem_of_getElem? (i := 23) rfl))) (by decide) (t := .int) (t' := (.array .int)) (by decide) (by decide))))
  obtain ⟨T20, h20, X20, e20, W20, st20⟩ := putF X15 hx hZ hown (host := "") (Or.inl (hw _ (List.mem_of_getElem? (i := 24) rfl))) Via.refl e15 F_19 E_18 (Or.inr ⟨(hw _ (List.mem_of_getElem? (i := 25) rfl)), rfl, hnm⟩) (hw _ (List.mem_of_getElem? (i := 2) rfl)) (ty := .int) (by decide) rfl rfl (g := (mkF m 22 #[.val (.ref o0), .val (.ref o1), .val (.ref o2), .val (.ref o3), .val (.int p4), .unset, .unset] [(.int p4), (.ref o0)])) rfl rfl (hb hby d1_22)
  have K21 : Steps p.tables e below _ (T20.setTop (mkF m 25 #[.val (.ref o0), .val (.ref o1), .val (.ref o2), .val (.ref o3), .val (.int p4), .unset, .unset] [])) := K17.trans (st20 _ (Steps.refl _))
  have Fw20 : Fld Z h20 o0 "com/example/futures_from_states/futuresfromstates/model/ArrayVariable" "firstSlot" "I" (.int p4) := F_19.same W20
  have N20 := Fr.snoc X20 N15 g_o0
  have V_22 : Arv Z h20 o2 k2 .int (2 : Int32) [(.int w0), (.int w1)] (.int (0 : Int32)) := ((((V_o2.other W5 (Ne.symm ne_o0_o2)).other W10 (Ne.symm ne_o0_o2)).other W15 (Ne.symm ne_o0_o2)).other W20 (Ne.symm ne_o0_o2))
  have K23 : Steps p.tables e below _ (T20.setTop (mkF m 28 #[.val (.ref o0), .val (.ref o1), .val (.ref o2), .val (.ref o3), .val (.int p4), .unset, .unset] [(.int (2 : Int32)), (.ref o0)])) := K21.trans (by
    show Steps p.tables e below (T20.setTop (mkF m 25 #[.val (.ref o0), .val (.ref o1), .val (.ref o2), .val (.ref o3), .val (.int p4), .unset, .unset] [])) _
    refine XS.aloadN X20.here hx rfl (hb hby d1_25) rfl rfl ?_
    show Steps p.tables e below (T20.setTop (mkF m 26 #[.val (.ref o0), .val (.ref o1), .val (.ref o2), .val (.ref o3), .val (.int p4), .unset, .unset] [(.ref o0)])) _
    refine XS.aloadN X20.here hx rfl (hb hby d1_26) rfl rfl ?_
    show Steps p.tables e below (T20.setTop (mkF m 27 #[.val (.ref o0), .val (.ref o1), .val (.ref o2), .val (.ref o3), .val (.int p4), .unset, .unset] [(.ref o2), (.ref o0)])) _
    refine (own_len X20 hx hZ e20 V_22 (g := (mkF m 27 #[.val (.ref o0), .val (.ref o1), .val (.ref o2), .val (.ref o3), .val (.int p4), .unset, .unset] [(.ref o2), (.ref o0)])) rfl rfl (hb hby d1_27)).trans ?_
    show Steps p.tables e below (T20.setTop (mkF m 28 #[.val (.ref o0), .val (.ref o1), .val (.ref o2), .val (.ref o3), .val (.int p4), .unset, .unset] [(.int (2 : Int32)), (.ref o0)])) _
    exact Steps.refl _)
  have Z_25 : n0 ≤ h20.size := (Nat.le_trans (Nat.le_trans (Nat.le_trans (Nat.le_trans Z0 (Keep.of_wr W5).1) (Keep.of_wr W10).1) (Keep.of_wr W15).1) (Keep.of_wr W20).1)
  have K_26 : Keep h0 h20 [o0] := ((((Kp0.wr W5 (Or.inl (List.mem_of_getElem? (i := 0) rfl))).wr W10 (Or.inl (List.mem_of_getElem? (i := 0) rfl))).wr W15 (Or.inl (List.mem_of_getElem? (i := 0) rfl))).wr W20 (Or.inl (List.mem_of_getElem? (i := 0) rfl)))
  obtain ⟨T24, h24, k24, b24, X24, e24, E24, g24, V24, A24, st24⟩ := own_newI X20 hx hZ (hw _ (List.mem_of_getElem? (i := 0) rfl)) e20 (g := (mkF m 28 #[.val (.ref o0), .val (.ref o1), .val (.ref o2), .val (.ref o3), .val (.int p4), .unset, .unset] [(.int (2 : Int32)), (.ref o0)])) rfl (hb hby d1_28) rfl (by decide) 2 (by decide) (by decide) (by decide) (by decide)
  have E_27 : Exa Z h20 o0 "com/example/futures_from_states/futuresfromstates/model/ArrayVariable" := (E_18.wr W20)
  have ne_o0_b24 : o0 ≠ b24 := Nat.ne_of_lt (Nat.lt_of_lt_of_le E_27.lt (Nat.le_of_eq g24.symm))
  have ne_o2_b24 : o2 ≠ b24 := Nat.ne_of_lt (Nat.lt_of_lt_of_le V_22.lt (Nat.le_of_eq g24.symm))
  have V_28 : Arv Z h20 o3 k3 .int (2 : Int32) [(.int x0), (.int x1)] (.int (0 : Int32)) := ((((V_o3.other W5 (Ne.symm ne_o0_o3)).other W10 (Ne.symm ne_o0_o3)).other W15 (Ne.symm ne_o0_o3)).other W20 (Ne.symm ne_o0_o3))
  have ne_o3_b24 : o3 ≠ b24 := Nat.ne_of_lt (Nat.lt_of_lt_of_le V_28.lt (Nat.le_of_eq g24.symm))
  have ge_b24 : n0 ≤ b24 := Nat.le_trans Z_25 (Nat.le_of_eq g24.symm)
  have sz_b24 : h0.size ≤ b24 := Nat.le_trans K_26.1 (Nat.le_of_eq g24.symm)
  have K29 : Steps p.tables e below _ (T24.setTop (mkF m 30 #[.val (.ref o0), .val (.ref o1), .val (.ref o2), .val (.ref o3), .val (.int p4), .unset, .unset] [(.ref b24), (.ref o0)])) := K23.trans st24
  have Vn24 : Arv Z h24 b24 k24 .int (2 : Int32) [(.int (0 : Int32)), (.int (0 : Int32))] (.int (0 : Int32)) := V24
  have E_30 : Exa Z h24 o0 "com/example/futures_from_states/futuresfromstates/model/ArrayVariable" := (E_27.ext E24)
  have F_31 : Fld Z h24 o0 "com/example/futures_from_states/futuresfromstates/model/ArrayVariable" "strides" "[I" u15_strides := (((((F_strides_o0.other W5 (Or.inr (slot_ne (Or.inr (hw _ (List.mem_of_getElem? (i := 27) rfl))) (Or.inr (hw _ (List.mem_of_getElem? (i := 19) rfl))) (by decide) (t := (.array .int)) (t' := (.object "java/lang/String")) (by decide) (by decide)))).other W10 (Or.inr (slot_ne (Or.inr (hw _ (List.mem_of_getElem? (i := 27) rfl))) (Or.inr (hw _ (List.mem_of_getElem? (i := 21) rfl))) (by decide) (t := (.array .int)) (t' := (.array .int)) (by decide) (by decide)))).other W15 (Or.inr (slot_ne (Or.inr (hw _ (List.mem_of_getElem? (i := 27) rfl))) (Or.inr (hw _ (List.mem_of_getElem? (i := 23) rfl))) (by decide) (t := (.array .int)) (t' := (.array .int)) (by decide) (by decide)))).other W20 (Or.inr (slot_ne (Or.inr (hw _ (List.mem_of_getElem? (i := 27) rfl))) (Or.inr (hw _ (List.mem_of_getElem? (i := 25) rfl))) (by decide) (t := (.array .int)) (t' := .int) (by decide) (by decide)))).ext E24)
  obtain ⟨T32, h32, X32, e32, W32, st32⟩ := putF X24 hx hZ hown (host := "") (Or.inl (hw _ (List.mem_of_getElem? (i := 26) rfl))) Via.refl e24 F_31 E_30 (Or.inr ⟨(hw _ (List.mem_of_getElem? (i := 27) rfl)), rfl, hnm⟩) (hw _ (List.mem_of_getElem? (i := 2) rfl)) (ty := (.array .int)) (by decide) rfl rfl (g := (mkF m 30 #[.val (.ref o0), .val (.ref o1), .val (.ref o2), .val (.ref o3), .val (.int p4), .unset, .unset] [(.ref b24), (.ref o0)])) rfl rfl (hb hby d1_30)
  have K33 : Steps p.tables e below _ (T32.setTop (mkF m 33 #[.val (.ref o0), .val (.ref o1), .val (.ref o2), .val (.ref o3), .val (.int p4), .unset, .unset] [])) := K29.trans (st32 _ (Steps.refl _))
  have Fw32 : Fld Z h32 o0 "com/example/futures_from_states/futuresfromstates/model/ArrayVariable" "strides" "[I" (.ref b24) := F_31.same W32
  have N32 := Fr.snoc X32 N20 g_o0
  have V_34 : Arv Z h32 o2 k2 .int (2 : Int32) [(.int w0), (.int w1)] (.int (0 : Int32)) := ((V_22.ext E24).other W32 (Ne.symm ne_o0_o2))
  have K35 : Steps p.tables e below _ (T32.setTop (mkF m 48 #[.val (.ref o0), .val (.ref o1), .val (.ref o2), .val (.ref o3), .val (.int p4), .val (.int (1 : Int32)), .val (.int (1 : Int32))] [(.ref o0)])) := K33.trans (by
    show Steps p.tables e below (T32.setTop (mkF m 33 #[.val (.ref o0), .val (.ref o1), .val (.ref o2), .val (.ref o3), .val (.int p4), .unset, .unset] [])) _
    refine XS.iconst X32.here hx rfl (hb hby d1_33) ?_
    show Steps p.tables e below (T32.setTop (mkF m 34 #[.val (.ref o0), .val (.ref o1), .val (.ref o2), .val (.ref o3), .val (.int p4), .unset, .unset] [(.int (1 : Int32))])) _
    refine XS.istore X32.here hx rfl (hb hby d1_34) rfl (l' := #[.val (.ref o0), .val (.ref o1), .val (.ref o2), .val (.ref o3), .val (.int p4), .val (.int (1 : Int32)), .unset]) rfl ?_
    show Steps p.tables e below (T32.setTop (mkF m 36 #[.val (.ref o0), .val (.ref o1), .val (.ref o2), .val (.ref o3), .val (.int p4), .val (.int (1 : Int32)), .unset] [])) _
    refine XS.aloadN X32.here hx rfl (hb hby d1_36) rfl rfl ?_
    show Steps p.tables e below (T32.setTop (mkF m 37 #[.val (.ref o0), .val (.ref o1), .val (.ref o2), .val (.ref o3), .val (.int p4), .val (.int (1 : Int32)), .unset] [(.ref o2)])) _
    refine (own_len X32 hx hZ e32 V_34 (g := (mkF m 37 #[.val (.ref o0), .val (.ref o1), .val (.ref o2), .val (.ref o3), .val (.int p4), .val (.int (1 : Int32)), .unset] [(.ref o2)])) rfl rfl (hb hby d1_37)).trans ?_
    show Steps p.tables e below (T32.setTop (mkF m 38 #[.val (.ref o0), .val (.ref o1), .val (.ref o2), .val (.ref o3), .val (.int p4), .val (.int (1 : Int32)), .unset] [(.int (2 : Int32))])) _
    refine XS.iconst X32.here hx rfl (hb hby d1_38) ?_
    show Steps p.tables e below (T32.setTop (mkF m 39 #[.val (.ref o0), .val (.ref o1), .val (.ref o2), .val (.ref o3), .val (.int p4), .val (.int (1 : Int32)), .unset] [(.int (1 : Int32)), (.int (2 : Int32))])) _
    refine XS.isub X32.here hx rfl (hb hby d1_39) rfl ?_
    show Steps p.tables e below (T32.setTop (mkF m 40 #[.val (.ref o0), .val (.ref o1), .val (.ref o2), .val (.ref o3), .val (.int p4), .val (.int (1 : Int32)), .unset] [(.int (1 : Int32))])) _
    refine XS.istore X32.here hx rfl (hb hby d1_40) rfl (l' := #[.val (.ref o0), .val (.ref o1), .val (.ref o2), .val (.ref o3), .val (.int p4), .val (.int (1 : Int32)), .val (.int (1 : Int32))]) rfl ?_
    show Steps p.tables e below (T32.setTop (mkF m 42 #[.val (.ref o0), .val (.ref o1), .val (.ref o2), .val (.ref o3), .val (.int p4), .val (.int (1 : Int32)), .val (.int (1 : Int32))] [])) _
    refine XS.iload X32.here hx rfl (hb hby d1_42) rfl ?_
    show Steps p.tables e below (T32.setTop (mkF m 44 #[.val (.ref o0), .val (.ref o1), .val (.ref o2), .val (.ref o3), .val (.int p4), .val (.int (1 : Int32)), .val (.int (1 : Int32))] [(.int (1 : Int32))])) _
    refine XS.ifNo X32.here hx rfl (hb hby d1_44) rfl ((if0 _ _).trans (flt (by decide : ¬ ((1 : Int32) < (0 : Int32)))).1) ?_
    show Steps p.tables e below (T32.setTop (mkF m 47 #[.val (.ref o0), .val (.ref o1), .val (.ref o2), .val (.ref o3), .val (.int p4), .val (.int (1 : Int32)), .val (.int (1 : Int32))] [])) _
    refine XS.aloadN X32.here hx rfl (hb hby d1_47) rfl rfl ?_
    show Steps p.tables e below (T32.setTop (mkF m 48 #[.val (.ref o0), .val (.ref o1), .val (.ref o2), .val (.ref o3), .val (.int p4), .val (.int (1 : Int32)), .val (.int (1 : Int32))] [(.ref o0)])) _
    exact Steps.refl _)
  obtain ⟨T36, X36, e36, st36⟩ := getF X32 hx hZ hown (host := "") (Or.inl (hw _ (List.mem_of_getElem? (i := 26) rfl))) Via.refl e32 Fw32 (g := (mkF m 48 #[.val (.ref o0), .val (.ref o1), .val (.ref o2), .val (.ref o3), .val (.int p4), .val (.int (1 : Int32)), .val (.int (1 : Int32))] [(.ref o0)])) rfl rfl (hb hby d1_48)
  have K37 : Steps p.tables e below _ (T36.setTop (mkF m 51 #[.val (.ref o0), .val (.ref o1), .val (.ref o2), .val (.ref o3), .val (.int p4), .val (.int (1 : Int32)), .val (.int (1 : Int32))] [(.ref b24)])) := K35.trans (st36 _ (Steps.refl _))
  have K38 : Steps p.tables e below _ (T36.setTop (mkF m 55 #[.val (.ref o0), .val (.ref o1), .val (.ref o2), .val (.ref o3), .val (.int p4), .val (.int (1 : Int32)), .val (.int (1 : Int32))] [(.int (1 : Int32)), (.int (1 : Int32)), (.ref b24)])) := K37.trans (by
    show Steps p.tables e below (T36.setTop (mkF m 51 #[.val (.ref o0), .val (.ref o1), .val (.ref o2), .val (.ref o3), .val (.int p4), .val (.int (1 : Int32)), .val (.int (1 : Int32))] [(.ref b24)])) _
    refine XS.iload X36.here hx rfl (hb hby d1_51) rfl ?_
    show Steps p.tables e below (T36.setTop (mkF m 53 #[.val (.ref o0), .val (.ref o1), .val (.ref o2), .val (.ref o3), .val (.int p4), .val (.int (1 : Int32)), .val (.int (1 : Int32))] [(.int (1 : Int32)), (.ref b24)])) _
    refine XS.iload X36.here hx rfl (hb hby d1_53) rfl ?_
    show Steps p.tables e below (T36.setTop (mkF m 55 #[.val (.ref o0), .val (.ref o1), .val (.ref o2), .val (.ref o3), .val (.int p4), .val (.int (1 : Int32)), .val (.int (1 : Int32))] [(.int (1 : Int32)), (.int (1 : Int32)), (.ref b24)])) _
    exact Steps.refl _)
  have V_39 : Arv Z h32 b24 k24 .int (2 : Int32) [(.int (0 : Int32)), (.int (0 : Int32))] (.int (0 : Int32)) := (Vn24.other W32 (Ne.symm ne_o0_b24))
  obtain ⟨T40, h40, X40, e40, W40, V40, st40⟩ := own_stI X36 hx hZ e36 V_39 (j := (1 : Int32)) ⟨by decide, by decide⟩ 1 rfl (Nat.le_of_ble_eq_true rfl) (g := (mkF m 55 #[.val (.ref o0), .val (.ref o1), .val (.ref o2), .val (.ref o3), .val (.int p4), .val (.int (1 : Int32)), .val (.int (1 : Int32))] [(.int (1 : Int32)), (.int (1 : Int32)), (.ref b24)])) rfl rfl (hb hby d1_55)
  have K41 : Steps p.tables e below _ (T40.setTop (mkF m 56 #[.val (.ref o0), .val (.ref o1), .val (.ref o2), .val (.ref o3), .val (.int p4), .val (.int (1 : Int32)), .val (.int (1 : Int32))] [])) := K38.trans st40
  have Vw40 : Arv Z h40 b24 k24 .int (2 : Int32) [(.int (0 : Int32)), (.int (1 : Int32))] (.int (0 : Int32)) := V40
  have N40 := Fr.snoc X40 N32 ge_b24
  have V_42 : Arv Z h40 o3 k3 .int (2 : Int32) [(.int x0), (.int x1)] (.int (0 : Int32)) := (((V_28.ext E24).other W32 (Ne.symm ne_o0_o3)).other W40 ne_o3_b24)
  have V_43 : Arv Z h40 o2 k2 .int (2 : Int32) [(.int w0), (.int w1)] (.int (0 : Int32)) := (V_34.other W40 ne_o2_b24)
  have K44 : Steps p.tables e below _ (T40.setTop (mkF m 48 #[.val (.ref o0), .val (.ref o1), .val (.ref o2), .val (.ref o3), .val (.int p4), .val (.int ((1 : Int32) * ((x1 - w1) + (1 : Int32)))), .val (.int (0 : Int32))] [(.ref o0)])) := K41.trans (by
    show Steps p.tables e below (T40.setTop (mkF m 56 #[.val (.ref o0), .val (.ref o1), .val (.ref o2), .val (.ref o3), .val (.int p4), .val (.int (1 : Int32)), .val (.int (1 : Int32))] [])) _
    refine XS.iload X40.here hx rfl (hb hby d1_56) rfl ?_
    show Steps p.tables e below (T40.setTop (mkF m 58 #[.val (.ref o0), .val (.ref o1), .val (.ref o2), .val (.ref o3), .val (.int p4), .val (.int (1 : Int32)), .val (.int (1 : Int32))] [(.int (1 : Int32))])) _
    refine XS.aloadN X40.here hx rfl (hb hby d1_58) rfl rfl ?_
    show Steps p.tables e below (T40.setTop (mkF m 59 #[.val (.ref o0), .val (.ref o1), .val (.ref o2), .val (.ref o3), .val (.int p4), .val (.int (1 : Int32)), .val (.int (1 : Int32))] [(.ref o3), (.int (1 : Int32))])) _
    refine XS.iload X40.here hx rfl (hb hby d1_59) rfl ?_
    show Steps p.tables e below (T40.setTop (mkF m 61 #[.val (.ref o0), .val (.ref o1), .val (.ref o2), .val (.ref o3), .val (.int p4), .val (.int (1 : Int32)), .val (.int (1 : Int32))] [(.int (1 : Int32)), (.ref o3), (.int (1 : Int32))])) _
    refine (own_ldI X40 hx hZ e40 V_42 (j := (1 : Int32)) ⟨by decide, by decide⟩ rfl (g := (mkF m 61 #[.val (.ref o0), .val (.ref o1), .val (.ref o2), .val (.ref o3), .val (.int p4), .val (.int (1 : Int32)), .val (.int (1 : Int32))] [(.int (1 : Int32)), (.ref o3), (.int (1 : Int32))])) rfl rfl (hb hby d1_61)).trans ?_
    show Steps p.tables e below (T40.setTop (mkF m 62 #[.val (.ref o0), .val (.ref o1), .val (.ref o2), .val (.ref o3), .val (.int p4), .val (.int (1 : Int32)), .val (.int (1 : Int32))] [(.int x1), (.int (1 : Int32))])) _
    refine XS.aloadN X40.here hx rfl (hb hby d1_62) rfl rfl ?_
    show Steps p.tables e below (T40.setTop (mkF m 63 #[.val (.ref o0), .val (.ref o1), .val (.ref o2), .val (.ref o3), .val (.int p4), .val (.int (1 : Int32)), .val (.int (1 : Int32))] [(.ref o2), (.int x1), (.int (1 : Int32))])) _
    refine XS.iload X40.here hx rfl (hb hby d1_63) rfl ?_
    show Steps p.tables e below (T40.setTop (mkF m 65 #[.val (.ref o0), .val (.ref o1), .val (.ref o2), .val (.ref o3), .val (.int p4), .val (.int (1 : Int32)), .val (.int (1 : Int32))] [(.int (1 : Int32)), (.ref o2), (.int x1), (.int (1 : Int32))])) _
    refine (own_ldI X40 hx hZ e40 V_43 (j := (1 : Int32)) ⟨by decide, by decide⟩ rfl (g := (mkF m 65 #[.val (.ref o0), .val (.ref o1), .val (.ref o2), .val (.ref o3), .val (.int p4), .val (.int (1 : Int32)), .val (.int (1 : Int32))] [(.int (1 : Int32)), (.ref o2), (.int x1), (.int (1 : Int32))])) rfl rfl (hb hby d1_65)).trans ?_
    show Steps p.tables e below (T40.setTop (mkF m 66 #[.val (.ref o0), .val (.ref o1), .val (.ref o2), .val (.ref o3), .val (.int p4), .val (.int (1 : Int32)), .val (.int (1 : Int32))] [(.int w1), (.int x1), (.int (1 : Int32))])) _
    refine XS.isub X40.here hx rfl (hb hby d1_66) rfl ?_
    show Steps p.tables e below (T40.setTop (mkF m 67 #[.val (.ref o0), .val (.ref o1), .val (.ref o2), .val (.ref o3), .val (.int p4), .val (.int (1 : Int32)), .val (.int (1 : Int32))] [(.int (x1 - w1)), (.int (1 : Int32))])) _
    refine XS.iconst X40.here hx rfl (hb hby d1_67) ?_
    show Steps p.tables e below (T40.setTop (mkF m 68 #[.val (.ref o0), .val (.ref o1), .val (.ref o2), .val (.ref o3), .val (.int p4), .val (.int (1 : Int32)), .val (.int (1 : Int32))] [(.int (1 : Int32)), (.int (x1 - w1)), (.int (1 : Int32))])) _
    refine XS.iadd X40.here hx rfl (hb hby d1_68) rfl ?_
    show Steps p.tables e below (T40.setTop (mkF m 69 #[.val (.ref o0), .val (.ref o1), .val (.ref o2), .val (.ref o3), .val (.int p4), .val (.int (1 : Int32)), .val (.int (1 : Int32))] [(.int ((x1 - w1) + (1 : Int32))), (.int (1 : Int32))])) _
    refine XS.imul X40.here hx rfl (hb hby d1_69) rfl ?_
    show Steps p.tables e below (T40.setTop (mkF m 70 #[.val (.ref o0), .val (.ref o1), .val (.ref o2), .val (.ref o3), .val (.int p4), .val (.int (1 : Int32)), .val (.int (1 : Int32))] [(.int ((1 : Int32) * ((x1 - w1) + (1 : Int32))))])) _
    refine XS.istore X40.here hx rfl (hb hby d1_70) rfl (l' := #[.val (.ref o0), .val (.ref o1), .val (.ref o2), .val (.ref o3), .val (.int p4), .val (.int ((1 : Int32) * ((x1 - w1) + (1 : Int32)))), .val (.int (1 : Int32))]) rfl ?_
    show Steps p.tables e below (T40.setTop (mkF m 72 #[.val (.ref o0), .val (.ref o1), .val (.ref o2), .val (.ref o3), .val (.int p4), .val (.int ((1 : Int32) * ((x1 - w1) + (1 : Int32)))), .val (.int (1 : Int32))] [])) _
    refine XS.iinc X40.here hx rfl (hb hby d1_72) rfl (l' := #[.val (.ref o0), .val (.ref o1), .val (.ref o2), .val (.ref o3), .val (.int p4), .val (.int ((1 : Int32) * ((x1 - w1) + (1 : Int32)))), .val (.int (0 : Int32))]) rfl ?_
    show Steps p.tables e below (T40.setTop (mkF m 75 #[.val (.ref o0), .val (.ref o1), .val (.ref o2), .val (.ref o3), .val (.int p4), .val (.int ((1 : Int32) * ((x1 - w1) + (1 : Int32)))), .val (.int (0 : Int32))] [])) _
    refine XS.goto X40.here hx rfl (pc0 := 75) (pc' := 42) rfl (hb hby d1_75) (by decide) (by decide) ?_
    show Steps p.tables e below (T40.setTop (mkF m 42 #[.val (.ref o0), .val (.ref o1), .val (.ref o2), .val (.ref o3), .val (.int p4), .val (.int ((1 : Int32) * ((x1 - w1) + (1 : Int32)))), .val (.int (0 : Int32))] [])) _
    refine XS.iload X40.here hx rfl (hb hby d1_42) rfl ?_
    show Steps p.tables e below (T40.setTop (mkF m 44 #[.val (.ref o0), .val (.ref o1), .val (.ref o2), .val (.ref o3), .val (.int p4), .val (.int ((1 : Int32) * ((x1 - w1) + (1 : Int32)))), .val (.int (0 : Int32))] [(.int (0 : Int32))])) _
    refine XS.ifNo X40.here hx rfl (hb hby d1_44) rfl ((if0 _ _).trans (flt (by decide : ¬ ((0 : Int32) < (0 : Int32)))).1) ?_
    show Steps p.tables e below (T40.setTop (mkF m 47 #[.val (.ref o0), .val (.ref o1), .val (.ref o2), .val (.ref o3), .val (.int p4), .val (.int ((1 : Int32) * ((x1 - w1) + (1 : Int32)))), .val (.int (0 : Int32))] [])) _
    refine XS.aloadN X40.here hx rfl (hb hby d1_47) rfl rfl ?_
    show Steps p.tables e below (T40.setTop (mkF m 48 #[.val (.ref o0), .val (.ref o1), .val (.ref o2), .val (.ref o3), .val (.int p4), .val (.int ((1 : Int32) * ((x1 - w1) + (1 : Int32)))), .val (.int (0 : Int32))] [(.ref o0)])) _
    exact Steps.refl _)
  have F_45 : Fld Z h40 o0 "com/example/futures_from_states/futuresfromstates/model/ArrayVariable" "strides" "[I" (.ref b24) := (Fw32.other W40 (Or.inl ne_o0_b24))
  obtain ⟨T46, X46, e46, st46⟩ := getF X40 hx hZ hown (host := "") (Or.inl (hw _ (List.mem_of_getElem? (i := 26) rfl))) Via.refl e40 F_45 (g := (mkF m 48 #[.val (.ref o0), .val (.ref o1), .val (.ref o2), .val (.ref o3), .val (.int p4), .val (.int ((1 : Int32) * ((x1 - w1) + (1 : Int32)))), .val (.int (0 : Int32))] [(.ref o0)])) rfl rfl (hb hby d1_48)
  have K47 : Steps p.tables e below _ (T46.setTop (mkF m 51 #[.val (.ref o0), .val (.ref o1), .val (.ref o2), .val (.ref o3), .val (.int p4), .val (.int ((1 : Int32) * ((x1 - w1) + (1 : Int32)))), .val (.int (0 : Int32))] [(.ref b24)])) := K44.trans (st46 _ (Steps.refl _))
  have K48 : Steps p.tables e below _ (T46.setTop (mkF m 55 #[.val (.ref o0), .val (.ref o1), .val (.ref o2), .val (.ref o3), .val (.int p4), .val (.int ((1 : Int32) * ((x1 - w1) + (1 : Int32)))), .val (.int (0 : Int32))] [(.int ((1 : Int32) * ((x1 - w1) + (1 : Int32)))), (.int (0 : Int32)), (.ref b24)])) := K47.trans (by
    show Steps p.tables e below (T46.setTop (mkF m 51 #[.val (.ref o0), .val (.ref o1), .val (.ref o2), .val (.ref o3), .val (.int p4), .val (.int ((1 : Int32) * ((x1 - w1) + (1 : Int32)))), .val (.int (0 : Int32))] [(.ref b24)])) _
    refine XS.iload X46.here hx rfl (hb hby d1_51) rfl ?_
    show Steps p.tables e below (T46.setTop (mkF m 53 #[.val (.ref o0), .val (.ref o1), .val (.ref o2), .val (.ref o3), .val (.int p4), .val (.int ((1 : Int32) * ((x1 - w1) + (1 : Int32)))), .val (.int (0 : Int32))] [(.int (0 : Int32)), (.ref b24)])) _
    refine XS.iload X46.here hx rfl (hb hby d1_53) rfl ?_
    show Steps p.tables e below (T46.setTop (mkF m 55 #[.val (.ref o0), .val (.ref o1), .val (.ref o2), .val (.ref o3), .val (.int p4), .val (.int ((1 : Int32) * ((x1 - w1) + (1 : Int32)))), .val (.int (0 : Int32))] [(.int ((1 : Int32) * ((x1 - w1) + (1 : Int32)))), (.int (0 : Int32)), (.ref b24)])) _
    exact Steps.refl _)
  obtain ⟨T49, h49, X49, e49, W49, V49, st49⟩ := own_stI X46 hx hZ e46 Vw40 (j := (0 : Int32)) ⟨by decide, by decide⟩ 0 rfl (Nat.le_of_ble_eq_true rfl) (g := (mkF m 55 #[.val (.ref o0), .val (.ref o1), .val (.ref o2), .val (.ref o3), .val (.int p4), .val (.int ((1 : Int32) * ((x1 - w1) + (1 : Int32)))), .val (.int (0 : Int32))] [(.int ((1 : Int32) * ((x1 - w1) + (1 : Int32)))), (.int (0 : Int32)), (.ref b24)])) rfl rfl (hb hby d1_55)
  have K50 : Steps p.tables e below _ (T49.setTop (mkF m 56 #[.val (.ref o0), .val (.ref o1), .val (.ref o2), .val (.ref o3), .val (.int p4), .val (.int ((1 : Int32) * ((x1 - w1) + (1 : Int32)))), .val (.int (0 : Int32))] [])) := K48.trans st49
  have Vw49 : Arv Z h49 b24 k24 .int (2 : Int32) [(.int ((1 : Int32) * ((x1 - w1) + (1 : Int32)))), (.int (1 : Int32))] (.int (0 : Int32)) := V49
  have N49 := Fr.snoc X49 N40 ge_b24
  have V_51 : Arv Z h49 o3 k3 .int (2 : Int32) [(.int x0), (.int x1)] (.int (0 : Int32)) := (V_42.other W49 ne_o3_b24)
  have V_52 : Arv Z h49 o2 k2 .int (2 : Int32) [(.int w0), (.int w1)] (.int (0 : Int32)) := (V_43.other W49 ne_o2_b24)
  have K53 : Steps p.tables e below _ (T49.setTop (mkF m 78 #[.val (.ref o0), .val (.ref o1), .val (.ref o2), .val (.ref o3), .val (.int p4), .val (.int (((1 : Int32) * ((x1 - w1) + (1 : Int32))) * ((x0 - w0) + (1 : Int32)))), .val (.int (-1 : Int32))] [])) := K50.trans (by
    show Steps p.tables e below (T49.setTop (mkF m 56 #[.val (.ref o0), .val (.ref o1), .val (.ref o2), .val (.ref o3), .val (.int p4), .val (.int ((1 : Int32) * ((x1 - w1) + (1 : Int32)))), .val (.int (0 : Int32))] [])) _
    refine XS.iload X49.here hx rfl (hb hby d1_56) rfl ?_
    show Steps p.tables e below (T49.setTop (mkF m 58 #[.val (.ref o0), .val (.ref o1), .val (.ref o2), .val (.ref o3), .val (.int p4), .val (.int ((1 : Int32) * ((x1 - w1) + (1 : Int32)))), .val (.int (0 : Int32))] [(.int ((1 : Int32) * ((x1 - w1) + (1 : Int32))))])) _
    refine XS.aloadN X49.here hx rfl (hb hby d1_58) rfl rfl ?_
    show Steps p.tables e below (T49.setTop (mkF m 59 #[.val (.ref o0), .val (.ref o1), .val (.ref o2), .val (.ref o3), .val (.int p4), .val (.int ((1 : Int32) * ((x1 - w1) + (1 : Int32)))), .val (.int (0 : Int32))] [(.ref o3), (.int ((1 : Int32) * ((x1 - w1) + (1 : Int32))))])) _
    refine XS.iload X49.here hx rfl (hb hby d1_59) rfl ?_
    show Steps p.tables e below (T49.setTop (mkF m 61 #[.val (.ref o0), .val (.ref o1), .val (.ref o2), .val (.ref o3), .val (.int p4), .val (.int ((1 : Int32) * ((x1 - w1) + (1 : Int32)))), .val (.int (0 : Int32))] [(.int (0 : Int32)), (.ref o3), (.int ((1 : Int32) * ((x1 - w1) + (1 : Int32))))])) _
    refine (own_ldI X49 hx hZ e49 V_51 (j := (0 : Int32)) ⟨by decide, by decide⟩ rfl (g := (mkF m 61 #[.val (.ref o0), .val (.ref o1), .val (.ref o2), .val (.ref o3), .val (.int p4), .val (.int ((1 : Int32) * ((x1 - w1) + (1 : Int32)))), .val (.int (0 : Int32))] [(.int (0 : Int32)), (.ref o3), (.int ((1 : Int32) * ((x1 - w1) + (1 : Int32))))])) rfl rfl (hb hby d1_61)).trans ?_
    show Steps p.tables e below (T49.setTop (mkF m 62 #[.val (.ref o0), .val (.ref o1), .val (.ref o2), .val (.ref o3), .val (.int p4), .val (.int ((1 : Int32) * ((x1 - w1) + (1 : Int32)))), .val (.int (0 : Int32))] [(.int x0), (.int ((1 : Int32) * ((x1 - w1) + (1 : Int32))))])) _
    refine XS.aloadN X49.here hx rfl (hb hby d1_62) rfl rfl ?_
    show Steps p.tables e below (T49.setTop (mkF m 63 #[.val (.ref o0), .val (.ref o1), .val (.ref o2), .val (.ref o3), .val (.int p4), .val (.int ((1 : Int32) * ((x1 - w1) + (1 : Int32)))), .val (.int (0 : Int32))] [(.ref o2), (.int x0), (.int ((1 : Int32) * ((x1 - w1) + (1 : Int32))))])) _
    refine XS.iload X49.here hx rfl (hb hby d1_63) rfl ?_
    show Steps p.tables e below (T49.setTop (mkF m 65 #[.val (.ref o0), .val (.ref o1), .val (.ref o2), .val (.ref o3), .val (.int p4), .val (.int ((1 : Int32) * ((x1 - w1) + (1 : Int32)))), .val (.int (0 : Int32))] [(.int (0 : Int32)), (.ref o2), (.int x0), (.int ((1 : Int32) * ((x1 - w1) + (1 : Int32))))])) _
    refine (own_ldI X49 hx hZ e49 V_52 (j := (0 : Int32)) ⟨by decide, by decide⟩ rfl (g := (mkF m 65 #[.val (.ref o0), .val (.ref o1), .val (.ref o2), .val (.ref o3), .val (.int p4), .val (.int ((1 : Int32) * ((x1 - w1) + (1 : Int32)))), .val (.int (0 : Int32))] [(.int (0 : Int32)), (.ref o2), (.int x0), (.int ((1 : Int32) * ((x1 - w1) + (1 : Int32))))])) rfl rfl (hb hby d1_65)).trans ?_
    show Steps p.tables e below (T49.setTop (mkF m 66 #[.val (.ref o0), .val (.ref o1), .val (.ref o2), .val (.ref o3), .val (.int p4), .val (.int ((1 : Int32) * ((x1 - w1) + (1 : Int32)))), .val (.int (0 : Int32))] [(.int w0), (.int x0), (.int ((1 : Int32) * ((x1 - w1) + (1 : Int32))))])) _
    refine XS.isub X49.here hx rfl (hb hby d1_66) rfl ?_
    show Steps p.tables e below (T49.setTop (mkF m 67 #[.val (.ref o0), .val (.ref o1), .val (.ref o2), .val (.ref o3), .val (.int p4), .val (.int ((1 : Int32) * ((x1 - w1) + (1 : Int32)))), .val (.int (0 : Int32))] [(.int (x0 - w0)), (.int ((1 : Int32) * ((x1 - w1) + (1 : Int32))))])) _
    refine XS.iconst X49.here hx rfl (hb hby d1_67) ?_
    show Steps p.tables e below (T49.setTop (mkF m 68 #[.val (.ref o0), .val (.ref o1), .val (.ref o2), .val (.ref o3), .val (.int p4), .val (.int ((1 : Int32) * ((x1 - w1) + (1 : Int32)))), .val (.int (0 : Int32))] [(.int (1 : Int32)), (.int (x0 - w0)), (.int ((1 : Int32) * ((x1 - w1) + (1 : Int32))))])) _
    refine XS.iadd X49.here hx rfl (hb hby d1_68) rfl ?_
    show Steps p.tables e below (T49.setTop (mkF m 69 #[.val (.ref o0), .val (.ref o1), .val (.ref o2), .val (.ref o3), .val (.int p4), .val (.int ((1 : Int32) * ((x1 - w1) + (1 : Int32)))), .val (.int (0 : Int32))] [(.int ((x0 - w0) + (1 : Int32))), (.int ((1 : Int32) * ((x1 - w1) + (1 : Int32))))])) _
    refine XS.imul X49.here hx rfl (hb hby d1_69) rfl ?_
    show Steps p.tables e below (T49.setTop (mkF m 70 #[.val (.ref o0), .val (.ref o1), .val (.ref o2), .val (.ref o3), .val (.int p4), .val (.int ((1 : Int32) * ((x1 - w1) + (1 : Int32)))), .val (.int (0 : Int32))] [(.int (((1 : Int32) * ((x1 - w1) + (1 : Int32))) * ((x0 - w0) + (1 : Int32))))])) _
    refine XS.istore X49.here hx rfl (hb hby d1_70) rfl (l' := #[.val (.ref o0), .val (.ref o1), .val (.ref o2), .val (.ref o3), .val (.int p4), .val (.int (((1 : Int32) * ((x1 - w1) + (1 : Int32))) * ((x0 - w0) + (1 : Int32)))), .val (.int (0 : Int32))]) rfl ?_
    show Steps p.tables e below (T49.setTop (mkF m 72 #[.val (.ref o0), .val (.ref o1), .val (.ref o2), .val (.ref o3), .val (.int p4), .val (.int (((1 : Int32) * ((x1 - w1) + (1 : Int32))) * ((x0 - w0) + (1 : Int32)))), .val (.int (0 : Int32))] [])) _
    refine XS.iinc X49.here hx rfl (hb hby d1_72) rfl (l' := #[.val (.ref o0), .val (.ref o1), .val (.ref o2), .val (.ref o3), .val (.int p4), .val (.int (((1 : Int32) * ((x1 - w1) + (1 : Int32))) * ((x0 - w0) + (1 : Int32)))), .val (.int (-1 : Int32))]) rfl ?_
    show Steps p.tables e below (T49.setTop (mkF m 75 #[.val (.ref o0), .val (.ref o1), .val (.ref o2), .val (.ref o3), .val (.int p4), .val (.int (((1 : Int32) * ((x1 - w1) + (1 : Int32))) * ((x0 - w0) + (1 : Int32)))), .val (.int (-1 : Int32))] [])) _
    refine XS.goto X49.here hx rfl (pc0 := 75) (pc' := 42) rfl (hb hby d1_75) (by decide) (by decide) ?_
    show Steps p.tables e below (T49.setTop (mkF m 42 #[.val (.ref o0), .val (.ref o1), .val (.ref o2), .val (.ref o3), .val (.int p4), .val (.int (((1 : Int32) * ((x1 - w1) + (1 : Int32))) * ((x0 - w0) + (1 : Int32)))), .val (.int (-1 : Int32))] [])) _
    refine XS.iload X49.here hx rfl (hb hby d1_42) rfl ?_
    show Steps p.tables e below (T49.setTop (mkF m 44 #[.val (.ref o0), .val (.ref o1), .val (.ref o2), .val (.ref o3), .val (.int p4), .val (.int (((1 : Int32) * ((x1 - w1) + (1 : Int32))) * ((x0 - w0) + (1 : Int32)))), .val (.int (-1 : Int32))] [(.int (-1 : Int32))])) _
    refine XS.ifYes X49.here hx rfl (pc0 := 44) (pc' := 78) rfl (hb hby d1_44) rfl ((if0 _ _).trans (tlt (by decide : (-1 : Int32) < (0 : Int32))).1) (by decide) (by decide) ?_
    show Steps p.tables e below (T49.setTop (mkF m 78 #[.val (.ref o0), .val (.ref o1), .val (.ref o2), .val (.ref o3), .val (.int p4), .val (.int (((1 : Int32) * ((x1 - w1) + (1 : Int32))) * ((x0 - w0) + (1 : Int32)))), .val (.int (-1 : Int32))] [])) _
    exact Steps.refl _)
  obtain ⟨fs, hr, hrun, hended, hW, hsame⟩ := X49.leave (v := none) (fun _ => rfl)
  have K_54 : Keep h0 h49 [o0] := ((((K_26.ext E24).wr W32 (Or.inl (List.mem_of_getElem? (i := 0) rfl))).wr W40 (Or.inr sz_b24)).wr W49 (Or.inr sz_b24))
  have E_55 : Exa Z h49 o0 "com/example/futures_from_states/futuresfromstates/model/ArrayVariable" := (((E_30.wr W32).wr W40).wr W49)
  have F_56 : Fld Z h49 o0 "com/example/futures_from_states/futuresfromstates/model/ArrayVariable" "name" "Ljava/lang/String;" (.ref o1) := (((((((Fw5.other W10 (Or.inr (slot_ne (Or.inr (hw _ (List.mem_of_getElem? (i := 19) rfl))) (Or.inr (hw _ (List.mem_of_getElem? (i := 21) rfl))) (by decide) (t := (.object "java/lang/String")) (t' := (.array .int)) (by decide) (by decide)))).other W15 (Or.inr (slot_ne (Or.inr (hw _ (List.mem_of_getElem? (i := 19) rfl))) (Or.inr (hw _ (List.mem_of_getElem? (i := 23) rfl))) (by decide) (t := (.object "java/lang/String")) (t' := (.array .int)) (by decide) (by decide)))).other W20 (Or.inr (slot_ne (Or.inr (hw _ (List.mem_of_getElem? (i := 19) rfl))) (Or.inr (hw _ (List.mem_of_getElem? (i := 25) rfl))) (by decide) (t := (.object "java/lang/String")) (t' := .int) (by decide) (by decide)))).ext E24).other W32 (Or.inr (slot_ne (Or.inr (hw _ (List.mem_of_getElem? (i := 19) rfl))) (Or.inr (hw _ (List.mem_of_getElem? (i := 27) rfl))) (by decide) (t := (.object "java/lang/String")) (t' := (.array .int)) (by decide) (by decide)))).other W40 (Or.inl ne_o0_b24)).other W49 (Or.inl ne_o0_b24))
  have F_57 : Fld Z h49 o0 "com/example/futures_from_states/futuresfromstates/model/ArrayVariable" "lows" "[I" (.ref o2) := ((((((Fw10.other W15 (Or.inr (slot_ne (Or.inr (hw _ (List.mem_of_getElem? (i := 21) rfl))) (Or.inr (hw _ (List.mem_of_getElem? (i := 23) rfl))) (by decide) (t := (.array .int)) (t' := (.array .int)) (by decide) (by decide)))).other W20 (Or.inr (slot_ne (Or.inr (hw _ (List.mem_of_getElem? (i := 21) rfl))) (Or.inr (hw _ (List.mem_of_getElem? (i := 25) rfl))) (by decide) (t := (.array .int)) (t' := .int) (by decide) (by decide)))).ext E24).other W32 (Or.inr (slot_ne (Or.inr (hw _ (List.mem_of_getElem? (i := 21) rfl))) (Or.inr (hw _ (List.mem_of_getElem? (i := 27) rfl))) (by decide) (t := (.array .int)) (t' := (.array .int)) (by decide) (by decide)))).other W40 (Or.inl ne_o0_b24)).other W49 (Or.inl ne_o0_b24))
  have F_58 : Fld Z h49 o0 "com/example/futures_from_states/futuresfromstates/model/ArrayVariable" "highs" "[I" (.ref o3) := (((((Fw15.other W20 (Or.inr (slot_ne (Or.inr (hw _ (List.mem_of_getElem? (i := 23) rfl))) (Or.inr (hw _ (List.mem_of_getElem? (i := 25) rfl))) (by decide) (t := (.array .int)) (t' := .int) (by decide) (by decide)))).ext E24).other W32 (Or.inr (slot_ne (Or.inr (hw _ (List.mem_of_getElem? (i := 23) rfl))) (Or.inr (hw _ (List.mem_of_getElem? (i := 27) rfl))) (by decide) (t := (.array .int)) (t' := (.array .int)) (by decide) (by decide)))).other W40 (Or.inl ne_o0_b24)).other W49 (Or.inl ne_o0_b24))
  have F_59 : Fld Z h49 o0 "com/example/futures_from_states/futuresfromstates/model/ArrayVariable" "firstSlot" "I" (.int p4) := ((((Fw20.ext E24).other W32 (Or.inr (slot_ne (Or.inr (hw _ (List.mem_of_getElem? (i := 25) rfl))) (Or.inr (hw _ (List.mem_of_getElem? (i := 27) rfl))) (by decide) (t := .int) (t' := (.array .int)) (by decide) (by decide)))).other W40 (Or.inl ne_o0_b24)).other W49 (Or.inl ne_o0_b24))
  have E_60 : Exa Z h49 b24 "[I" := (((A24.wr W32).wr W40).wr W49)
  have F_61 : Fld Z h49 o0 "com/example/futures_from_states/futuresfromstates/model/ArrayVariable" "strides" "[I" (.ref b24) := (F_45.other W49 (Or.inl ne_o0_b24))
  refine ⟨_, _, K53.trans (X49.returnOut hx Bd.returns (hb hby d1_78) hr), hrun, hended, _, _, rfl, ?_, ⟨_, rfl⟩, hW, hsame.mono (by decide) (by first | decide | omega)⟩
  show Q_rm1 Z o0 o1 o2 o3 p4 k2 w0 w1 k3 x0 x1 u11_name u12_lows u13_highs u14_firstSlot u15_strides h0 n0 _ T49.heap _
  rw [e49]
  exact ⟨b24, k24, rfl, N49, K_54, E_55, F_56, F_57, F_58, F_59, Vw49, E_60, F_61, sz_b24⟩
theorem d3_0 : decode prog_47_method_4_code 0 = .ok (.iload_n 2, 1) := by decide +kernel
theorem d3_1 : decode prog_47_method_4_code 1 = .ok (.aload_n 0, 1) := by decide +kernel
theorem d3_2 : decode prog_47_method_4_code 2 = .ok (.getfield 13, 3) := by decide +kernel
theorem d3_5 : decode prog_47_method_4_code 5 = .ok (.iload_n 1, 1) := by decide +kernel
theorem d3_6 : decode prog_47_method_4_code 6 = .ok (.iaload, 1) := by decide +kernel
theorem d3_7 : decode prog_47_method_4_code 7 = .ok (.if_icmp .lt 17, 3) := by decide +kernel
theorem d3_24 : decode prog_47_method_4_code 24 = .ok (.iconst 0, 1) := by decide +kernel
theorem d3_10 : decode prog_47_method_4_code 10 = .ok (.iload_n 2, 1) := by decide +kernel
theorem d3_11 : decode prog_47_method_4_code 11 = .ok (.aload_n 0, 1) := by decide +kernel
theorem d3_12 : decode prog_47_method_4_code 12 = .ok (.getfield 17, 3) := by decide +kernel
theorem d3_15 : decode prog_47_method_4_code 15 = .ok (.iload_n 1, 1) := by decide +kernel
theorem d3_16 : decode prog_47_method_4_code 16 = .ok (.iaload, 1) := by decide +kernel
theorem d3_17 : decode prog_47_method_4_code 17 = .ok (.if_icmp .gt 7, 3) := by decide +kernel
theorem d3_20 : decode prog_47_method_4_code 20 = .ok (.iconst 1, 1) := by decide +kernel
theorem d3_21 : decode prog_47_method_4_code 21 = .ok (.goto 4, 3) := by decide +kernel
def Q_rm3 (Z : State) (o0 : Addr) (p1 : Int32) (p2 : Int32) (la : Addr) (ha : Addr) (kl : ClassId) (kh : ClassId) (vl : List Value) (vh : List Value) (wl : Int32) (wh : Int32) (h0 : Heap) (n0 : Nat) (v : Option Value) (h : Heap) (L : List Loc) : Prop := v = some (.int ((if p2 < wl then (0 : Int32) else (if wh < p2 then (0 : Int32) else (1 : Int32))) &&& 1)) ∧ Fr n0 L ∧ h = h0
theorem pn_3 : plainName "com/example/futures_from_states/futuresfromstates/model/ArrayVariable" = true := by first | (simp [plainName, overriddenIn]; done) | decide +kernel
theorem ef_3 (m : MethodId) (x0 : Addr) (x1 : Int32) (x2 : Int32) : entryFrame m #[(.ref x0), (.int x1), (.int x2)] 3 = mkF m 0 #[.val (.ref x0), .val (.int x1), .val (.int x2)] [] := by first | (simp [entryFrame, mkF, argsToLocals, Value.category]; done) | rfl
theorem d3_25 : decode prog_47_method_4_code 25 = .ok (.ireturn, 1) := by decide +kernel
set_option maxRecDepth 65536 in
set_option maxHeartbeats 40000000 in
theorem rm3 (l : Launch) (Z : State) (a0 : Array Value) (hw : ∀ d ∈ tables_1, d.before a0 Z = true) (ws : List Jvm.Cond) (o0 : Addr) (p1 : Int32) (p2 : Int32) (la : Addr) (ha : Addr) (kl : ClassId) (kh : ClassId) (vl : List Value) (vh : List Value) (wl : Int32) (wh : Int32) (h0 : Heap) (n0 : Nat) (Z0 : n0 ≤ h0.size) (F_lows_o0 : Fld Z h0 o0 "com/example/futures_from_states/futuresfromstates/model/ArrayVariable" "lows" "[I" (.ref la)) (F_highs_o0 : Fld Z h0 o0 "com/example/futures_from_states/futuresfromstates/model/ArrayVariable" "highs" "[I" (.ref ha)) (V_la : Arv Z h0 la kl .int (2 : Int32) vl (.int (0 : Int32))) (V_ha : Arv Z h0 ha kh .int (2 : Int32) vh (.int (0 : Int32))) (hi : (¬ (p1 < (0 : Int32))) ∧ p1 < (2 : Int32)) (hl : vl.getD p1.toNatClampNeg (Value.int (0 : Int32)) = Value.int wl) (hhv : vh.getD p1.toNatClampNeg (Value.int (0 : Int32)) = Value.int wh) :
    MetFree l (⟨"com/example/futures_from_states/futuresfromstates/model/ArrayVariable", "inBounds", "(II)Z"⟩ : MethodName) (head1 (Jvm.Cond.code (⟨"com/example/futures_from_states/futuresfromstates/model/ArrayVariable", "inBounds", "(II)Z"⟩ : MethodName) prog_47_method_4_code 3 (some .boolean) :: ws) ({ frames := 0, cells := 0, slots := 0, locals := 0 } : Room)) (fun a U => a = #[(.ref o0), (.int p1), (.int p2)] ∧ Z.Warmed39 U.vm ∧ U.heap = h0) (fun _ _ _ _ _ => True) (fun _ U o U' => ∃ v L, o = .returned v ∧ Q_rm3 Z o0 p1 p2 la ha kl kh vl vh wl wh h0 n0 v U'.heap L ∧ FrameEnd U o U' L ({ frames := 0, cells := 0, slots := 0, locals := 0 } : Room).cells ({ frames := 0, cells := 0, slots := 0, locals := 0 } : Room).slots) := by
  refine MetFree.of_bodySF (plainFor_of_name pn_3) hisR ?_
  intro p e s m args below meth c s₁ Bd hml0 hP hK
  obtain ⟨rfl, hZ, hh⟩ := hP
  have hx := Bd.exec
  have hby := Bd.bytes
  have hml : c.maxLocals = 3 := hml0
  have hown : s.vm.findClass "com/example/futures_from_states/futuresfromstates/model/ArrayVariable" = some m.cls := findClass_of_methodNamed Bd.named
  have hnm := (name_of_methodNamed Bd.named Bd.method).1
  have X0 : Stand p l e ({ frames := 0, cells := 0, slots := 0, locals := 0 } : Room) s m #[(.ref o0), (.int p1), (.int p2)] below meth c s₁ [] 0 0 := Stand.of_body Bd
  have e0 : s₁.heap = h0 := by rw [← hh, Bd.state]; rfl
  have N0 := Fr.nil n0
  have Kp0 : Keep h0 h0 [] := Keep.refl _ _
  have K0 : Steps p.tables e below (s₁.setTop (entryFrame m #[(.ref o0), (.int p1), (.int p2)] 3)) (s₁.setTop (mkF m 0 #[.val (.ref o0), .val (.int p1), .val (.int p2)] [])) := castTop (ef_3 m o0 p1 p2) (Steps.refl _)
  have K1 : Steps p.tables e below _ (s₁.setTop (mkF m 2 #[.val (.ref o0), .val (.int p1), .val (.int p2)] [(.ref o0), (.int p2)])) := K0.trans (by
    show Steps p.tables e below (s₁.setTop (mkF m 0 #[.val (.ref o0), .val (.int p1), .val (.int p2)] [])) _
    refine XS.iloadN X0.here hx rfl (hb hby d3_0) rfl ?_
    show Steps p.tables e below (s₁.setTop (mkF m 1 #[.val (.ref o0), .val (.int p1), .val (.int p2)] [(.int p2)])) _
    refine XS.aloadN X0.here hx rfl (hb hby d3_1) rfl rfl ?_
    show Steps p.tables e below (s₁.setTop (mkF m 2 #[.val (.ref o0), .val (.int p1), .val (.int p2)] [(.ref o0), (.int p2)])) _
    exact Steps.refl _)
  obtain ⟨T2, X2, e2, st2⟩ := getF X0 hx hZ hown (host := "") (Or.inl (hw _ (List.mem_of_getElem? (i := 20) rfl))) Via.refl e0 F_lows_o0 (g := (mkF m 2 #[.val (.ref o0), .val (.int p1), .val (.int p2)] [(.ref o0), (.int p2)])) rfl rfl (hb hby d3_2)
  have K3 : Steps p.tables e below _ (T2.setTop (mkF m 5 #[.val (.ref o0), .val (.int p1), .val (.int p2)] [(.ref la), (.int p2)])) := K1.trans (st2 _ (Steps.refl _))
  have K4 : Steps p.tables e below _ (T2.setTop (mkF m 7 #[.val (.ref o0), .val (.int p1), .val (.int p2)] [(.int wl), (.int p2)])) := K3.trans (by
    show Steps p.tables e below (T2.setTop (mkF m 5 #[.val (.ref o0), .val (.int p1), .val (.int p2)] [(.ref la), (.int p2)])) _
    refine XS.iloadN X2.here hx rfl (hb hby d3_5) rfl ?_
    show Steps p.tables e below (T2.setTop (mkF m 6 #[.val (.ref o0), .val (.int p1), .val (.int p2)] [(.int p1), (.ref la), (.int p2)])) _
    refine (own_ldI X2 hx hZ e2 V_la (j := p1) hi hl (g := (mkF m 6 #[.val (.ref o0), .val (.int p1), .val (.int p2)] [(.int p1), (.ref la), (.int p2)])) rfl rfl (hb hby d3_6)).trans ?_
    show Steps p.tables e below (T2.setTop (mkF m 7 #[.val (.ref o0), .val (.int p1), .val (.int p2)] [(.int wl), (.int p2)])) _
    exact Steps.refl _)
  obtain ⟨T5, L5, v5_0, X5, e5, N5, hv5_0, S5⟩ : ∃ (T5 : State) (L5 : List Loc) (v5_0 : Int32), Stand p l e ({ frames := 0, cells := 0, slots := 0, locals := 0 } : Room) s m #[(.ref o0), (.int p1), (.int p2)] below meth c T5 L5 0 0 ∧ T5.heap = h0 ∧ Fr n0 L5 ∧ (if p2 < wl then (0 : Int32) else (if wh < p2 then (0 : Int32) else (1 : Int32))) = v5_0 ∧ Steps p.tables e below (T2.setTop (mkF m 7 #[.val (.ref o0), .val (.int p1), .val (.int p2)] [(.int wl), (.int p2)])) (T5.setTop (mkF m 25 #[.val (.ref o0), .val (.int p1), .val (.int p2)] [(.int v5_0)])) := by
    have R5 : Steps p.tables e below (T2.setTop (mkF m 7 #[.val (.ref o0), .val (.int p1), .val (.int p2)] [(.int wl), (.int p2)])) (T2.setTop (mkF m 7 #[.val (.ref o0), .val (.int p1), .val (.int p2)] [(.int wl), (.int p2)])) := Steps.refl _
    by_cases hc7 : p2 < wl
    · have K6 : Steps p.tables e below _ (T2.setTop (mkF m 25 #[.val (.ref o0), .val (.int p1), .val (.int p2)] [(.int (0 : Int32))])) := R5.trans (by
        show Steps p.tables e below (T2.setTop (mkF m 7 #[.val (.ref o0), .val (.int p1), .val (.int p2)] [(.int wl), (.int p2)])) _
        refine XS.icmpYes X2.here hx rfl (pc0 := 7) (pc' := 24) rfl (hb hby d3_7) rfl (tlt hc7).1 (by decide) (by decide) ?_
        show Steps p.tables e below (T2.setTop (mkF m 24 #[.val (.ref o0), .val (.int p1), .val (.int p2)] [])) _
        refine XS.iconst X2.here hx rfl (hb hby d3_24) ?_
        show Steps p.tables e below (T2.setTop (mkF m 25 #[.val (.ref o0), .val (.int p1), .val (.int p2)] [(.int (0 : Int32))])) _
        exact Steps.refl _)
      exact ⟨T2, _, (0 : Int32), X2, e2, N0, (by rw [if_pos hc7]), K6⟩
    · have K7 : Steps p.tables e below _ (T2.setTop (mkF m 12 #[.val (.ref o0), .val (.int p1), .val (.int p2)] [(.ref o0), (.int p2)])) := R5.trans (by
        show Steps p.tables e below (T2.setTop (mkF m 7 #[.val (.ref o0), .val (.int p1), .val (.int p2)] [(.int wl), (.int p2)])) _
        refine XS.icmpNo X2.here hx rfl (hb hby d3_7) rfl (flt hc7).1 ?_
        show Steps p.tables e below (T2.setTop (mkF m 10 #[.val (.ref o0), .val (.int p1), .val (.int p2)] [])) _
        refine XS.iloadN X2.here hx rfl (hb hby d3_10) rfl ?_
        show Steps p.tables e below (T2.setTop (mkF m 11 #[.val (.ref o0), .val (.int p1), .val (.int p2)] [(.int p2)])) _
        refine XS.aloadN X2.here hx rfl (hb hby d3_11) rfl rfl ?_
        show Steps p.tables e below (T2.setTop (mkF m 12 #[.val (.ref o0), .val (.int p1), .val (.int p2)] [(.ref o0), (.int p2)])) _
        exact Steps.refl _)
      obtain ⟨T8, X8, e8, st8⟩ := getF X2 hx hZ hown (host := "") (Or.inl (hw _ (List.mem_of_getElem? (i := 22) rfl))) Via.refl e2 F_highs_o0 (g := (mkF m 12 #[.val (.ref o0), .val (.int p1), .val (.int p2)] [(.ref o0), (.int p2)])) rfl rfl (hb hby d3_12)
      have K9 : Steps p.tables e below _ (T8.setTop (mkF m 15 #[.val (.ref o0), .val (.int p1), .val (.int p2)] [(.ref ha), (.int p2)])) := K7.trans (st8 _ (Steps.refl _))
      have K10 : Steps p.tables e below _ (T8.setTop (mkF m 17 #[.val (.ref o0), .val (.int p1), .val (.int p2)] [(.int wh), (.int p2)])) := K9.trans (by
        show Steps p.tables e below (T8.setTop (mkF m 15 #[.val (.ref o0), .val (.int p1), .val (.int p2)] [(.ref ha), (.int p2)])) _
        refine XS.iloadN X8.here hx rfl (hb hby d3_15) rfl ?_
        show Steps p.tables e below (T8.setTop (mkF m 16 #[.val (.ref o0), .val (.int p1), .val (.int p2)] [(.int p1), (.ref ha), (.int p2)])) _
        refine (own_ldI X8 hx hZ e8 V_ha (j := p1) hi hhv (g := (mkF m 16 #[.val (.ref o0), .val (.int p1), .val (.int p2)] [(.int p1), (.ref ha), (.int p2)])) rfl rfl (hb hby d3_16)).trans ?_
        show Steps p.tables e below (T8.setTop (mkF m 17 #[.val (.ref o0), .val (.int p1), .val (.int p2)] [(.int wh), (.int p2)])) _
        exact Steps.refl _)
      by_cases hc17 : wh < p2
      · have K11 : Steps p.tables e below _ (T8.setTop (mkF m 25 #[.val (.ref o0), .val (.int p1), .val (.int p2)] [(.int (0 : Int32))])) := K10.trans (by
          show Steps p.tables e below (T8.setTop (mkF m 17 #[.val (.ref o0), .val (.int p1), .val (.int p2)] [(.int wh), (.int p2)])) _
          refine XS.icmpYes X8.here hx rfl (pc0 := 17) (pc' := 24) rfl (hb hby d3_17) rfl (tlt hc17).2.2.1 (by decide) (by decide) ?_
          show Steps p.tables e below (T8.setTop (mkF m 24 #[.val (.ref o0), .val (.int p1), .val (.int p2)] [])) _
          refine XS.iconst X8.here hx rfl (hb hby d3_24) ?_
          show Steps p.tables e below (T8.setTop (mkF m 25 #[.val (.ref o0), .val (.int p1), .val (.int p2)] [(.int (0 : Int32))])) _
          exact Steps.refl _)
        exact ⟨T8, _, (0 : Int32), X8, e8, N0, (by rw [if_neg hc7, if_pos hc17]), K11⟩
      · have K12 : Steps p.tables e below _ (T8.setTop (mkF m 25 #[.val (.ref o0), .val (.int p1), .val (.int p2)] [(.int (1 : Int32))])) := K10.trans (by
          show Steps p.tables e below (T8.setTop (mkF m 17 #[.val (.ref o0), .val (.int p1), .val (.int p2)] [(.int wh), (.int p2)])) _
          refine XS.icmpNo X8.here hx rfl (hb hby d3_17) rfl (flt hc17).2.2.1 ?_
          show Steps p.tables e below (T8.setTop (mkF m 20 #[.val (.ref o0), .val (.int p1), .val (.int p2)] [])) _
          refine XS.iconst X8.here hx rfl (hb hby d3_20) ?_
          show Steps p.tables e below (T8.setTop (mkF m 21 #[.val (.ref o0), .val (.int p1), .val (.int p2)] [(.int (1 : Int32))])) _
          refine XS.goto X8.here hx rfl (pc0 := 21) (pc' := 25) rfl (hb hby d3_21) (by decide) (by decide) ?_
          show Steps p.tables e below (T8.setTop (mkF m 25 #[.val (.ref o0), .val (.int p1), .val (.int p2)] [(.int (1 : Int32))])) _
          exact Steps.refl _)
        exact ⟨T8, _, (1 : Int32), X8, e8, N0, (by rw [if_neg hc7, if_neg hc17]), K12⟩
  have K13 := K4.trans S5
  subst hv5_0
  obtain ⟨fs, hr, hrun, hended, hW, hsame⟩ := X5.leave (v := some (.int ((if p2 < wl then (0 : Int32) else (if wh < p2 then (0 : Int32) else (1 : Int32))) &&& 1))) (fun h => by rw [Bd.returns] at h; cases h)
  refine ⟨_, _, K13.trans (retN X5 hx (t := .boolean) Bd.returns (by simp) (hb hby d3_25) hr), hrun, hended, _, _, rfl, ?_, ⟨_, rfl⟩, hW, hsame.mono (by decide) (by first | decide | omega)⟩
  show Q_rm3 Z o0 p1 p2 la ha kl kh vl vh wl wh h0 n0 _ T5.heap _
  rw [e5]
  exact ⟨rfl, N5, rfl⟩
theorem own_sa {a0 : Array Value} {Z : State} (hw : ∀ d ∈ tables_1, d.before a0 Z = true) : ∀ d ∈ Bundle.stringAtoms, d.before a0 Z = true := fun d hd => hw d (by
  simp only [Bundle.stringAtoms, List.mem_cons, List.not_mem_nil, or_false] at hd
  rcases hd with rfl | rfl | rfl | rfl | rfl | rfl | rfl <;> decide +kernel)
theorem pd_0 : parseMethodDescriptor "(Ljava/lang/String;[I[II)V" = some ⟨[(.object "java/lang/String"), (.array .int), (.array .int), .int], none⟩ := by decide +kernel
theorem pd_1 : parseMethodDescriptor "(II)Z" = some ⟨[.int, .int], some .boolean⟩ := by decide +kernel
def Q_rm0 (n0 : Nat) (v : Option Value) (L : List Loc) : Prop := v = some (.int 1) ∧ Fr n0 L
theorem pn_0 : plainName "com/example/futures_from_states/futuresfromstates/model/ArrayVariableInBoundsPinLaw" = true := by first | (simp [plainName, overriddenIn]; done) | decide +kernel
theorem ef_0 (m : MethodId) (x0 : Int32) (x1 : Int32) (x2 : Int32) (x3 : Int32) (x4 : Int32) (x5 : Int32) : entryFrame m #[(.int x0), (.int x1), (.int x2), (.int x3), (.int x4), (.int x5)] maxLocals = mkF m 0 #[.val (.int x0), .val (.int x1), .val (.int x2), .val (.int x3), .val (.int x4), .val (.int x5), .unset, .unset, .unset, .unset, .unset, .unset, .unset, .unset, .unset, .unset, .unset] [] := by first | (simp [entryFrame, mkF, argsToLocals, Value.category, maxLocals]; done) | rfl
set_option maxRecDepth 65536 in
set_option maxHeartbeats 4000000 in
theorem own_law_0 (p0 : Int32) (p1 : Int32) (p2 : Int32) (p3 : Int32) (p4 : Int32) (p5 : Int32) (v43_0 : Int64) (v48_0 : Int64) (v53_0 : Int32) (r64 : Int32) (v67_0 : Int32) (v72_0 : Int32) (v77_0 : Int32) (v88_0 : Int32) (v99_0 : Int32) (v114_0 : Int32) (hv43_0 : (if (p5 &&& (1 : Int32)) = (0 : Int32) then (p0.toInt64) else (p2.toInt64)) = v43_0) (hv48_0 : (if (p5 &&& (1 : Int32)) = (0 : Int32) then (p1.toInt64) else (p3.toInt64)) = v48_0) (hv53_0 : (if ((p4.toInt64) - v43_0) < (0 : Int64) then (0 : Int32) else (if (v48_0 - (p4.toInt64)) < (0 : Int64) then (0 : Int32) else (1 : Int32))) = v53_0) (hr64 : ((if p4 < (if (p5 &&& (1 : Int32)) = (0 : Int32) then p0 else p2) then (0 : Int32) else (if (if (p5 &&& (1 : Int32)) = (0 : Int32) then p1 else p3) < p4 then (0 : Int32) else (1 : Int32))) &&& 1) = r64) (hv67_0 : (if r64 = v53_0 then (1 : Int32) else (0 : Int32)) = v67_0) (hv72_0 : (if v48_0 < v43_0 then (0 : Int32) else (1 : Int32)) = v72_0) (hv77_0 : (if v67_0 = (0 : Int32) then (0 : Int32) else (if ((if (v43_0.toInt32) < (if (p5 &&& (1 : Int32)) = (0 : Int32) then p0 else p2) then (0 : Int32) else (if (if (p5 &&& (1 : Int32)) = (0 : Int32) then p1 else p3) < (v43_0.toInt32) then (0 : Int32) else (1 : Int32))) &&& 1) = v72_0 then (1 : Int32) else (0 : Int32))) = v77_0) (hv88_0 : (if v77_0 = (0 : Int32) then (0 : Int32) else (if ((if (v48_0.toInt32) < (if (p5 &&& (1 : Int32)) = (0 : Int32) then p0 else p2) then (0 : Int32) else (if (if (p5 &&& (1 : Int32)) = (0 : Int32) then p1 else p3) < (v48_0.toInt32) then (0 : Int32) else (1 : Int32))) &&& 1) = v72_0 then (1 : Int32) else (0 : Int32))) = v88_0) (hv99_0 : (if (-2147483648 : Int64) < v43_0 then (if v88_0 = (0 : Int32) then (0 : Int32) else (if ((if ((v43_0 - (1 : Int64)).toInt32) < (if (p5 &&& (1 : Int32)) = (0 : Int32) then p0 else p2) then (0 : Int32) else (if (if (p5 &&& (1 : Int32)) = (0 : Int32) then p1 else p3) < ((v43_0 - (1 : Int64)).toInt32) then (0 : Int32) else (1 : Int32))) &&& 1) = (0 : Int32) then (1 : Int32) else (0 : Int32))) else v88_0) = v99_0) (hv114_0 : (if v48_0 < (2147483647 : Int64) then (if v99_0 = (0 : Int32) then (0 : Int32) else (if ((if ((v48_0 + (1 : Int64)).toInt32) < (if (p5 &&& (1 : Int32)) = (0 : Int32) then p0 else p2) then (0 : Int32) else (if (if (p5 &&& (1 : Int32)) = (0 : Int32) then p1 else p3) < ((v48_0 + (1 : Int64)).toInt32) then (0 : Int32) else (1 : Int32))) &&& 1) = (0 : Int32) then (1 : Int32) else (0 : Int32))) else v99_0) = v114_0) : (v114_0 &&& 1) = (1 : Int32) := by
  generalize hq : (p5 &&& (1 : Int32)) = q at *
  obtain ⟨lo, hlo⟩ : ∃ z : Int32, (if q = (0 : Int32) then p0 else p2) = z := ⟨_, rfl⟩
  obtain ⟨hi, hhi⟩ : ∃ z : Int32, (if q = (0 : Int32) then p1 else p3) = z := ⟨_, rfl⟩
  have e1 : v43_0 = lo.toInt64 := by rw [← hv43_0, ← hlo]; by_cases c : q = (0 : Int32) <;> simp only [c, if_true, if_false]
  have e2 : v48_0 = hi.toInt64 := by rw [← hv48_0, ← hhi]; by_cases c : q = (0 : Int32) <;> simp only [c, if_true, if_false]
  rw [hlo, hhi] at hr64
  simp only [hlo, hhi] at hv77_0 hv88_0 hv99_0 hv114_0
  clear hv43_0 hv48_0 hlo hhi hq
  subst e1 e2
  have g1 : ((p4.toInt64) - (lo.toInt64)) < (0 : Int64) ↔ p4 < lo := own_sb p4 lo
  have g2 : ((hi.toInt64) - (p4.toInt64)) < (0 : Int64) ↔ hi < p4 := own_sb hi p4
  have g3 : (hi.toInt64) < (lo.toInt64) ↔ hi < lo := own_lw hi lo
  have g4 : lo.toInt64.toInt32 = lo := by simp
  have g5 : hi.toInt64.toInt32 = hi := by simp
  have g6 : (-2147483648 : Int64) < lo.toInt64 → ((lo.toInt64 - (1 : Int64)).toInt32) < lo := own_dn lo
  have g7 : hi.toInt64 < (2147483647 : Int64) → hi < ((hi.toInt64 + (1 : Int64)).toInt32) := own_up hi
  have g8 : ¬ lo < lo := Int32.lt_irrefl
  have g9 : ¬ hi < hi := Int32.lt_irrefl
  rw [g4] at hv77_0
  rw [g5] at hv88_0
  simp only [g1, g2] at hv53_0
  simp only [g3] at hv72_0
  simp only [g8, if_false] at hv77_0
  simp only [g9, if_false] at hv88_0
  have h53 : r64 = v53_0 := by
    rw [← hr64, ← hv53_0]
    by_cases a : p4 < lo <;> by_cases b : hi < p4 <;> simp only [a, b, if_true, if_false] <;> decide
  rw [if_pos h53] at hv67_0
  subst hv67_0
  have h77 : v77_0 = (1 : Int32) := by
    rw [← hv77_0, ← hv72_0]
    by_cases a : hi < lo <;> simp only [a, if_true, if_false] <;> decide
  have h88 : v88_0 = (1 : Int32) := by
    rw [← hv88_0, h77, ← hv72_0]
    by_cases a : hi < lo <;> simp only [a, if_true, if_false] <;> decide
  have h99 : v99_0 = (1 : Int32) := by
    rw [← hv99_0, h88]
    by_cases a : (-2147483648 : Int64) < lo.toInt64
    · rw [if_pos a]; simp only [g6 a, if_true]; decide
    · rw [if_neg a]
  have h114 : v114_0 = (1 : Int32) := by
    rw [← hv114_0, h99]
    by_cases a : hi.toInt64 < (2147483647 : Int64)
    · rw [if_pos a]
      by_cases b : (hi.toInt64 + (1 : Int64)).toInt32 < lo <;> simp only [g7 a, b, if_true, if_false] <;> decide
    · rw [if_neg a]
  rw [h114]; decide
set_option maxRecDepth 65536 in
set_option maxHeartbeats 40000000 in
theorem rm0 (l : Launch) (Z : State) (a0 : Array Value) (hw : ∀ d ∈ tables_1, d.before a0 Z = true) (ws : List Jvm.Cond) (p0 : Int32) (p1 : Int32) (p2 : Int32) (p3 : Int32) (p4 : Int32) (p5 : Int32) (h0 : Heap) (n0 : Nat) (Z0 : n0 ≤ h0.size) :
    MetFree l x (head1 (Jvm.Cond.code x code maxLocals ret :: ws) room_1) (fun a U => a = #[(.int p0), (.int p1), (.int p2), (.int p3), (.int p4), (.int p5)] ∧ Z.Warmed39 U.vm ∧ U.heap = h0) (fun _ _ _ _ _ => True) (fun _ U o U' => ∃ v L, o = .returned v ∧ Q_rm0 n0 v L ∧ ReturnedEndW U o U' L 6 19) := by
  refine MetFree.of_bodySF (plainFor_of_name pn_0) hisR ?_
  intro p e s m args below meth c s₁ Bd hml0 hP hK
  obtain ⟨rfl, hZ, hh⟩ := hP
  have hx := Bd.exec
  have hby := Bd.bytes
  have hml : c.maxLocals = 17 := hml0
  have hown : s.vm.findClass "com/example/futures_from_states/futuresfromstates/model/ArrayVariableInBoundsPinLaw" = some m.cls := findClass_of_methodNamed Bd.named
  have hnm := (name_of_methodNamed Bd.named Bd.method).1
  have X0 : Stand p l e room_1 s m #[(.int p0), (.int p1), (.int p2), (.int p3), (.int p4), (.int p5)] below meth c s₁ [] 0 0 := Stand.of_body Bd
  have e0 : s₁.heap = h0 := by rw [← hh, Bd.state]; rfl
  have N0 := Fr.nil n0
  have K0 : Steps p.tables e below (s₁.setTop (entryFrame m #[(.int p0), (.int p1), (.int p2), (.int p3), (.int p4), (.int p5)] maxLocals)) (s₁.setTop (mkF m 0 #[.val (.int p0), .val (.int p1), .val (.int p2), .val (.int p3), .val (.int p4), .val (.int p5), .unset, .unset, .unset, .unset, .unset, .unset, .unset, .unset, .unset, .unset, .unset] [])) := castTop (ef_0 m p0 p1 p2 p3 p4 p5) (Steps.refl _)
  have K1 : Steps p.tables e below _ (s₁.setTop (mkF m 1 #[.val (.int p0), .val (.int p1), .val (.int p2), .val (.int p3), .val (.int p4), .val (.int p5), .unset, .unset, .unset, .unset, .unset, .unset, .unset, .unset, .unset, .unset, .unset] [(.int (2 : Int32))])) := K0.trans (by
    show Steps p.tables e below (s₁.setTop (mkF m 0 #[.val (.int p0), .val (.int p1), .val (.int p2), .val (.int p3), .val (.int p4), .val (.int p5), .unset, .unset, .unset, .unset, .unset, .unset, .unset, .unset, .unset, .unset, .unset] [])) _
    refine XS.iconst X0.here hx rfl (hb hby at_0) ?_
    show Steps p.tables e below (s₁.setTop (mkF m 1 #[.val (.int p0), .val (.int p1), .val (.int p2), .val (.int p3), .val (.int p4), .val (.int p5), .unset, .unset, .unset, .unset, .unset, .unset, .unset, .unset, .unset, .unset, .unset] [(.int (2 : Int32))])) _
    exact Steps.refl _)
  obtain ⟨T2, h2, k2, b2, X2, e2, E2, g2, V2, A2, st2⟩ := own_newI X0 hx hZ (hw _ (List.mem_of_getElem? (i := 0) rfl)) e0 (g := (mkF m 1 #[.val (.int p0), .val (.int p1), .val (.int p2), .val (.int p3), .val (.int p4), .val (.int p5), .unset, .unset, .unset, .unset, .unset, .unset, .unset, .unset, .unset, .unset, .unset] [(.int (2 : Int32))])) rfl (hb hby at_1) rfl (by decide) 2 (by decide) (by decide) (by decide) (by decide)
  have ge_b2 : n0 ≤ b2 := Nat.le_trans Z0 (Nat.le_of_eq g2.symm)
  have K3 : Steps p.tables e below _ (T2.setTop (mkF m 3 #[.val (.int p0), .val (.int p1), .val (.int p2), .val (.int p3), .val (.int p4), .val (.int p5), .unset, .unset, .unset, .unset, .unset, .unset, .unset, .unset, .unset, .unset, .unset] [(.ref b2)])) := K1.trans st2
  have Vn2 : Arv Z h2 b2 k2 .int (2 : Int32) [(.int (0 : Int32)), (.int (0 : Int32))] (.int (0 : Int32)) := V2
  have K4 : Steps p.tables e below _ (T2.setTop (mkF m 6 #[.val (.int p0), .val (.int p1), .val (.int p2), .val (.int p3), .val (.int p4), .val (.int p5), .val (.ref b2), .unset, .unset, .unset, .unset, .unset, .unset, .unset, .unset, .unset, .unset] [(.int (2 : Int32))])) := K3.trans (by
    show Steps p.tables e below (T2.setTop (mkF m 3 #[.val (.int p0), .val (.int p1), .val (.int p2), .val (.int p3), .val (.int p4), .val (.int p5), .unset, .unset, .unset, .unset, .unset, .unset, .unset, .unset, .unset, .unset, .unset] [(.ref b2)])) _
    refine XS.astore X2.here hx rfl (hb hby at_3) rfl rfl (l' := #[.val (.int p0), .val (.int p1), .val (.int p2), .val (.int p3), .val (.int p4), .val (.int p5), .val (.ref b2), .unset, .unset, .unset, .unset, .unset, .unset, .unset, .unset, .unset, .unset]) rfl ?_
    show Steps p.tables e below (T2.setTop (mkF m 5 #[.val (.int p0), .val (.int p1), .val (.int p2), .val (.int p3), .val (.int p4), .val (.int p5), .val (.ref b2), .unset, .unset, .unset, .unset, .unset, .unset, .unset, .unset, .unset, .unset] [])) _
    refine XS.iconst X2.here hx rfl (hb hby at_5) ?_
    show Steps p.tables e below (T2.setTop (mkF m 6 #[.val (.int p0), .val (.int p1), .val (.int p2), .val (.int p3), .val (.int p4), .val (.int p5), .val (.ref b2), .unset, .unset, .unset, .unset, .unset, .unset, .unset, .unset, .unset, .unset] [(.int (2 : Int32))])) _
    exact Steps.refl _)
  have Z_6 : n0 ≤ h2.size := (Nat.le_trans Z0 E2.1)
  obtain ⟨T5, h5, k5, b5, X5, e5, E5, g5, V5, A5, st5⟩ := own_newI X2 hx hZ (hw _ (List.mem_of_getElem? (i := 0) rfl)) e2 (g := (mkF m 6 #[.val (.int p0), .val (.int p1), .val (.int p2), .val (.int p3), .val (.int p4), .val (.int p5), .val (.ref b2), .unset, .unset, .unset, .unset, .unset, .unset, .unset, .unset, .unset, .unset] [(.int (2 : Int32))])) rfl (hb hby at_6) rfl (by decide) 2 (by decide) (by decide) (by decide) (by decide)
  have ne_b2_b5 : b2 ≠ b5 := Nat.ne_of_lt (Nat.lt_of_lt_of_le Vn2.lt (Nat.le_of_eq g5.symm))
  have ge_b5 : n0 ≤ b5 := Nat.le_trans Z_6 (Nat.le_of_eq g5.symm)
  have K7 : Steps p.tables e below _ (T5.setTop (mkF m 8 #[.val (.int p0), .val (.int p1), .val (.int p2), .val (.int p3), .val (.int p4), .val (.int p5), .val (.ref b2), .unset, .unset, .unset, .unset, .unset, .unset, .unset, .unset, .unset, .unset] [(.ref b5)])) := K4.trans st5
  have Vn5 : Arv Z h5 b5 k5 .int (2 : Int32) [(.int (0 : Int32)), (.int (0 : Int32))] (.int (0 : Int32)) := V5
  have K8 : Steps p.tables e below _ (T5.setTop (mkF m 14 #[.val (.int p0), .val (.int p1), .val (.int p2), .val (.int p3), .val (.int p4), .val (.int p5), .val (.ref b2), .val (.ref b5), .unset, .unset, .unset, .unset, .unset, .unset, .unset, .unset, .unset] [(.int p0), (.int (0 : Int32)), (.ref b2)])) := K7.trans (by
    show Steps p.tables e below (T5.setTop (mkF m 8 #[.val (.int p0), .val (.int p1), .val (.int p2), .val (.int p3), .val (.int p4), .val (.int p5), .val (.ref b2), .unset, .unset, .unset, .unset, .unset, .unset, .unset, .unset, .unset, .unset] [(.ref b5)])) _
    refine XS.astore X5.here hx rfl (hb hby at_8) rfl rfl (l' := #[.val (.int p0), .val (.int p1), .val (.int p2), .val (.int p3), .val (.int p4), .val (.int p5), .val (.ref b2), .val (.ref b5), .unset, .unset, .unset, .unset, .unset, .unset, .unset, .unset, .unset]) rfl ?_
    show Steps p.tables e below (T5.setTop (mkF m 10 #[.val (.int p0), .val (.int p1), .val (.int p2), .val (.int p3), .val (.int p4), .val (.int p5), .val (.ref b2), .val (.ref b5), .unset, .unset, .unset, .unset, .unset, .unset, .unset, .unset, .unset] [])) _
    refine XS.aload X5.here hx rfl (hb hby at_10) rfl rfl ?_
    show Steps p.tables e below (T5.setTop (mkF m 12 #[.val (.int p0), .val (.int p1), .val (.int p2), .val (.int p3), .val (.int p4), .val (.int p5), .val (.ref b2), .val (.ref b5), .unset, .unset, .unset, .unset, .unset, .unset, .unset, .unset, .unset] [(.ref b2)])) _
    refine XS.iconst X5.here hx rfl (hb hby at_12) ?_
    show Steps p.tables e below (T5.setTop (mkF m 13 #[.val (.int p0), .val (.int p1), .val (.int p2), .val (.int p3), .val (.int p4), .val (.int p5), .val (.ref b2), .val (.ref b5), .unset, .unset, .unset, .unset, .unset, .unset, .unset, .unset, .unset] [(.int (0 : Int32)), (.ref b2)])) _
    refine XS.iloadN X5.here hx rfl (hb hby at_13) rfl ?_
    show Steps p.tables e below (T5.setTop (mkF m 14 #[.val (.int p0), .val (.int p1), .val (.int p2), .val (.int p3), .val (.int p4), .val (.int p5), .val (.ref b2), .val (.ref b5), .unset, .unset, .unset, .unset, .unset, .unset, .unset, .unset, .unset] [(.int p0), (.int (0 : Int32)), (.ref b2)])) _
    exact Steps.refl _)
  have V_9 : Arv Z h5 b2 k2 .int (2 : Int32) [(.int (0 : Int32)), (.int (0 : Int32))] (.int (0 : Int32)) := (Vn2.ext E5)
  obtain ⟨T10, h10, X10, e10, W10, V10, st10⟩ := own_stI X5 hx hZ e5 V_9 (j := (0 : Int32)) ⟨by decide, by decide⟩ 0 rfl (Nat.le_of_ble_eq_true rfl) (g := (mkF m 14 #[.val (.int p0), .val (.int p1), .val (.int p2), .val (.int p3), .val (.int p4), .val (.int p5), .val (.ref b2), .val (.ref b5), .unset, .unset, .unset, .unset, .unset, .unset, .unset, .unset, .unset] [(.int p0), (.int (0 : Int32)), (.ref b2)])) rfl rfl (hb hby at_14)
  have K11 : Steps p.tables e below _ (T10.setTop (mkF m 15 #[.val (.int p0), .val (.int p1), .val (.int p2), .val (.int p3), .val (.int p4), .val (.int p5), .val (.ref b2), .val (.ref b5), .unset, .unset, .unset, .unset, .unset, .unset, .unset, .unset, .unset] [])) := K8.trans st10
  have Vw10 : Arv Z h10 b2 k2 .int (2 : Int32) [(.int p0), (.int (0 : Int32))] (.int (0 : Int32)) := V10
  have N10 := Fr.snoc X10 N0 ge_b2
  have K12 : Steps p.tables e below _ (T10.setTop (mkF m 19 #[.val (.int p0), .val (.int p1), .val (.int p2), .val (.int p3), .val (.int p4), .val (.int p5), .val (.ref b2), .val (.ref b5), .unset, .unset, .unset, .unset, .unset, .unset, .unset, .unset, .unset] [(.int p2), (.int (1 : Int32)), (.ref b2)])) := K11.trans (by
    show Steps p.tables e below (T10.setTop (mkF m 15 #[.val (.int p0), .val (.int p1), .val (.int p2), .val (.int p3), .val (.int p4), .val (.int p5), .val (.ref b2), .val (.ref b5), .unset, .unset, .unset, .unset, .unset, .unset, .unset, .unset, .unset] [])) _
    refine XS.aload X10.here hx rfl (hb hby at_15) rfl rfl ?_
    show Steps p.tables e below (T10.setTop (mkF m 17 #[.val (.int p0), .val (.int p1), .val (.int p2), .val (.int p3), .val (.int p4), .val (.int p5), .val (.ref b2), .val (.ref b5), .unset, .unset, .unset, .unset, .unset, .unset, .unset, .unset, .unset] [(.ref b2)])) _
    refine XS.iconst X10.here hx rfl (hb hby at_17) ?_
    show Steps p.tables e below (T10.setTop (mkF m 18 #[.val (.int p0), .val (.int p1), .val (.int p2), .val (.int p3), .val (.int p4), .val (.int p5), .val (.ref b2), .val (.ref b5), .unset, .unset, .unset, .unset, .unset, .unset, .unset, .unset, .unset] [(.int (1 : Int32)), (.ref b2)])) _
    refine XS.iloadN X10.here hx rfl (hb hby at_18) rfl ?_
    show Steps p.tables e below (T10.setTop (mkF m 19 #[.val (.int p0), .val (.int p1), .val (.int p2), .val (.int p3), .val (.int p4), .val (.int p5), .val (.ref b2), .val (.ref b5), .unset, .unset, .unset, .unset, .unset, .unset, .unset, .unset, .unset] [(.int p2), (.int (1 : Int32)), (.ref b2)])) _
    exact Steps.refl _)
  obtain ⟨T13, h13, X13, e13, W13, V13, st13⟩ := own_stI X10 hx hZ e10 Vw10 (j := (1 : Int32)) ⟨by decide, by decide⟩ 1 rfl (Nat.le_of_ble_eq_true rfl) (g := (mkF m 19 #[.val (.int p0), .val (.int p1), .val (.int p2), .val (.int p3), .val (.int p4), .val (.int p5), .val (.ref b2), .val (.ref b5), .unset, .unset, .unset, .unset, .unset, .unset, .unset, .unset, .unset] [(.int p2), (.int (1 : Int32)), (.ref b2)])) rfl rfl (hb hby at_19)
  have K14 : Steps p.tables e below _ (T13.setTop (mkF m 20 #[.val (.int p0), .val (.int p1), .val (.int p2), .val (.int p3), .val (.int p4), .val (.int p5), .val (.ref b2), .val (.ref b5), .unset, .unset, .unset, .unset, .unset, .unset, .unset, .unset, .unset] [])) := K12.trans st13
  have Vw13 : Arv Z h13 b2 k2 .int (2 : Int32) [(.int p0), (.int p2)] (.int (0 : Int32)) := V13
  have N13 := Fr.snoc X13 N10 ge_b2
  have K15 : Steps p.tables e below _ (T13.setTop (mkF m 24 #[.val (.int p0), .val (.int p1), .val (.int p2), .val (.int p3), .val (.int p4), .val (.int p5), .val (.ref b2), .val (.ref b5), .unset, .unset, .unset, .unset, .unset, .unset, .unset, .unset, .unset] [(.int p1), (.int (0 : Int32)), (.ref b5)])) := K14.trans (by
    show Steps p.tables e below (T13.setTop (mkF m 20 #[.val (.int p0), .val (.int p1), .val (.int p2), .val (.int p3), .val (.int p4), .val (.int p5), .val (.ref b2), .val (.ref b5), .unset, .unset, .unset, .unset, .unset, .unset, .unset, .unset, .unset] [])) _
    refine XS.aload X13.here hx rfl (hb hby at_20) rfl rfl ?_
    show Steps p.tables e below (T13.setTop (mkF m 22 #[.val (.int p0), .val (.int p1), .val (.int p2), .val (.int p3), .val (.int p4), .val (.int p5), .val (.ref b2), .val (.ref b5), .unset, .unset, .unset, .unset, .unset, .unset, .unset, .unset, .unset] [(.ref b5)])) _
    refine XS.iconst X13.here hx rfl (hb hby at_22) ?_
    show Steps p.tables e below (T13.setTop (mkF m 23 #[.val (.int p0), .val (.int p1), .val (.int p2), .val (.int p3), .val (.int p4), .val (.int p5), .val (.ref b2), .val (.ref b5), .unset, .unset, .unset, .unset, .unset, .unset, .unset, .unset, .unset] [(.int (0 : Int32)), (.ref b5)])) _
    refine XS.iloadN X13.here hx rfl (hb hby at_23) rfl ?_
    show Steps p.tables e below (T13.setTop (mkF m 24 #[.val (.int p0), .val (.int p1), .val (.int p2), .val (.int p3), .val (.int p4), .val (.int p5), .val (.ref b2), .val (.ref b5), .unset, .unset, .unset, .unset, .unset, .unset, .unset, .unset, .unset] [(.int p1), (.int (0 : Int32)), (.ref b5)])) _
    exact Steps.refl _)
  have V_16 : Arv Z h13 b5 k5 .int (2 : Int32) [(.int (0 : Int32)), (.int (0 : Int32))] (.int (0 : Int32)) := ((Vn5.other W10 (Ne.symm ne_b2_b5)).other W13 (Ne.symm ne_b2_b5))
  obtain ⟨T17, h17, X17, e17, W17, V17, st17⟩ := own_stI X13 hx hZ e13 V_16 (j := (0 : Int32)) ⟨by decide, by decide⟩ 0 rfl (Nat.le_of_ble_eq_true rfl) (g := (mkF m 24 #[.val (.int p0), .val (.int p1), .val (.int p2), .val (.int p3), .val (.int p4), .val (.int p5), .val (.ref b2), .val (.ref b5), .unset, .unset, .unset, .unset, .unset, .unset, .unset, .unset, .unset] [(.int p1), (.int (0 : Int32)), (.ref b5)])) rfl rfl (hb hby at_24)
  have K18 : Steps p.tables e below _ (T17.setTop (mkF m 25 #[.val (.int p0), .val (.int p1), .val (.int p2), .val (.int p3), .val (.int p4), .val (.int p5), .val (.ref b2), .val (.ref b5), .unset, .unset, .unset, .unset, .unset, .unset, .unset, .unset, .unset] [])) := K15.trans st17
  have Vw17 : Arv Z h17 b5 k5 .int (2 : Int32) [(.int p1), (.int (0 : Int32))] (.int (0 : Int32)) := V17
  have N17 := Fr.snoc X17 N13 ge_b5
  have K19 : Steps p.tables e below _ (T17.setTop (mkF m 29 #[.val (.int p0), .val (.int p1), .val (.int p2), .val (.int p3), .val (.int p4), .val (.int p5), .val (.ref b2), .val (.ref b5), .unset, .unset, .unset, .unset, .unset, .unset, .unset, .unset, .unset] [(.int p3), (.int (1 : Int32)), (.ref b5)])) := K18.trans (by
    show Steps p.tables e below (T17.setTop (mkF m 25 #[.val (.int p0), .val (.int p1), .val (.int p2), .val (.int p3), .val (.int p4), .val (.int p5), .val (.ref b2), .val (.ref b5), .unset, .unset, .unset, .unset, .unset, .unset, .unset, .unset, .unset] [])) _
    refine XS.aload X17.here hx rfl (hb hby at_25) rfl rfl ?_
    show Steps p.tables e below (T17.setTop (mkF m 27 #[.val (.int p0), .val (.int p1), .val (.int p2), .val (.int p3), .val (.int p4), .val (.int p5), .val (.ref b2), .val (.ref b5), .unset, .unset, .unset, .unset, .unset, .unset, .unset, .unset, .unset] [(.ref b5)])) _
    refine XS.iconst X17.here hx rfl (hb hby at_27) ?_
    show Steps p.tables e below (T17.setTop (mkF m 28 #[.val (.int p0), .val (.int p1), .val (.int p2), .val (.int p3), .val (.int p4), .val (.int p5), .val (.ref b2), .val (.ref b5), .unset, .unset, .unset, .unset, .unset, .unset, .unset, .unset, .unset] [(.int (1 : Int32)), (.ref b5)])) _
    refine XS.iloadN X17.here hx rfl (hb hby at_28) rfl ?_
    show Steps p.tables e below (T17.setTop (mkF m 29 #[.val (.int p0), .val (.int p1), .val (.int p2), .val (.int p3), .val (.int p4), .val (.int p5), .val (.ref b2), .val (.ref b5), .unset, .unset, .unset, .unset, .unset, .unset, .unset, .unset, .unset] [(.int p3), (.int (1 : Int32)), (.ref b5)])) _
    exact Steps.refl _)
  obtain ⟨T20, h20, X20, e20, W20, V20, st20⟩ := own_stI X17 hx hZ e17 Vw17 (j := (1 : Int32)) ⟨by decide, by decide⟩ 1 rfl (Nat.le_of_ble_eq_true rfl) (g := (mkF m 29 #[.val (.int p0), .val (.int p1), .val (.int p2), .val (.int p3), .val (.int p4), .val (.int p5), .val (.ref b2), .val (.ref b5), .unset, .unset, .unset, .unset, .unset, .unset, .unset, .unset, .unset] [(.int p3), (.int (1 : Int32)), (.ref b5)])) rfl rfl (hb hby at_29)
  have K21 : Steps p.tables e below _ (T20.setTop (mkF m 30 #[.val (.int p0), .val (.int p1), .val (.int p2), .val (.int p3), .val (.int p4), .val (.int p5), .val (.ref b2), .val (.ref b5), .unset, .unset, .unset, .unset, .unset, .unset, .unset, .unset, .unset] [])) := K19.trans st20
  have Vw20 : Arv Z h20 b5 k5 .int (2 : Int32) [(.int p1), (.int p3)] (.int (0 : Int32)) := V20
  have N20 := Fr.snoc X20 N17 ge_b5
  have Z_23 : n0 ≤ h20.size := (Nat.le_trans (Nat.le_trans (Nat.le_trans (Nat.le_trans (Nat.le_trans Z_6 E5.1) (Keep.of_wr W10).1) (Keep.of_wr W13).1) (Keep.of_wr W17).1) (Keep.of_wr W20).1)
  obtain ⟨T22, h22, X22, e22, E22, A22, D22, -, st22⟩ := newO X20 hx hZ hown (hw _ (List.mem_of_getElem? (i := 1) rfl)) (hw _ (List.mem_of_getElem? (i := 2) rfl)) (hw _ (List.mem_of_getElem? (i := 3) rfl)) e20 (g := (mkF m 30 #[.val (.int p0), .val (.int p1), .val (.int p2), .val (.int p3), .val (.int p4), .val (.int p5), .val (.ref b2), .val (.ref b5), .unset, .unset, .unset, .unset, .unset, .unset, .unset, .unset, .unset] [])) rfl (hb hby at_30) (by decide) (by decide)
  obtain ⟨b22, g22⟩ : ∃ z, z = h20.size := ⟨_, rfl⟩
  rw [← g22] at A22 D22 st22
  have V_24 : Arv Z h20 b2 k2 .int (2 : Int32) [(.int p0), (.int p2)] (.int (0 : Int32)) := ((Vw13.other W17 ne_b2_b5).other W20 ne_b2_b5)
  have ne_b2_b22 : b2 ≠ b22 := Nat.ne_of_lt (Nat.lt_of_lt_of_le V_24.lt (Nat.le_of_eq g22.symm))
  have ne_b5_b22 : b5 ≠ b22 := Nat.ne_of_lt (Nat.lt_of_lt_of_le Vw20.lt (Nat.le_of_eq g22.symm))
  have ge_b22 : n0 ≤ b22 := Nat.le_trans Z_23 (Nat.le_of_eq g22.symm)
  have K25 : Steps p.tables e below _ (T22.setTop (mkF m 33 #[.val (.int p0), .val (.int p1), .val (.int p2), .val (.int p3), .val (.int p4), .val (.int p5), .val (.ref b2), .val (.ref b5), .unset, .unset, .unset, .unset, .unset, .unset, .unset, .unset, .unset] [(.ref b22)])) := K21.trans (st22 _ (Steps.refl _))
  have F22_name : Fld Z h22 b22 "com/example/futures_from_states/futuresfromstates/model/ArrayVariable" "name" "Ljava/lang/String;" .null := D22 (Or.inr (hw _ (List.mem_of_getElem? (i := 19) rfl))) (ty := (.object "java/lang/String")) (by decide)
  have F22_lows : Fld Z h22 b22 "com/example/futures_from_states/futuresfromstates/model/ArrayVariable" "lows" "[I" .null := D22 (Or.inr (hw _ (List.mem_of_getElem? (i := 21) rfl))) (ty := (.array .int)) (by decide)
  have F22_highs : Fld Z h22 b22 "com/example/futures_from_states/futuresfromstates/model/ArrayVariable" "highs" "[I" .null := D22 (Or.inr (hw _ (List.mem_of_getElem? (i := 23) rfl))) (ty := (.array .int)) (by decide)
  have F22_firstSlot : Fld Z h22 b22 "com/example/futures_from_states/futuresfromstates/model/ArrayVariable" "firstSlot" "I" (.int (0 : Int32)) := D22 (Or.inr (hw _ (List.mem_of_getElem? (i := 25) rfl))) (ty := .int) (by decide)
  have F22_strides : Fld Z h22 b22 "com/example/futures_from_states/futuresfromstates/model/ArrayVariable" "strides" "[I" .null := D22 (Or.inr (hw _ (List.mem_of_getElem? (i := 27) rfl))) (ty := (.array .int)) (by decide)
  have K26 : Steps p.tables e below _ (T22.setTop (mkF m 34 #[.val (.int p0), .val (.int p1), .val (.int p2), .val (.int p3), .val (.int p4), .val (.int p5), .val (.ref b2), .val (.ref b5), .unset, .unset, .unset, .unset, .unset, .unset, .unset, .unset, .unset] [(.ref b22), (.ref b22)])) := K25.trans (by
    show Steps p.tables e below (T22.setTop (mkF m 33 #[.val (.int p0), .val (.int p1), .val (.int p2), .val (.int p3), .val (.int p4), .val (.int p5), .val (.ref b2), .val (.ref b5), .unset, .unset, .unset, .unset, .unset, .unset, .unset, .unset, .unset] [(.ref b22)])) _
    refine XS.dup X22.here hx rfl (hb hby at_33) rfl rfl ?_
    show Steps p.tables e below (T22.setTop (mkF m 34 #[.val (.int p0), .val (.int p1), .val (.int p2), .val (.int p3), .val (.int p4), .val (.int p5), .val (.ref b2), .val (.ref b5), .unset, .unset, .unset, .unset, .unset, .unset, .unset, .unset, .unset] [(.ref b22), (.ref b22)])) _
    exact Steps.refl _)
  have Z_28 : n0 ≤ h22.size := (Nat.le_trans Z_23 E22.1)
  have Xw27 : Stand p l e room_1 (s.setVm s.vm) m #[(.int p0), (.int p1), (.int p2), (.int p3), (.int p4), (.int p5)] below meth c T22 _ _ _ := X22
  obtain ⟨b27, T27, h27, kk27, X27, e27, E27, hS27, hk27, hZ27, hown27, st27⟩ := ldcS Xw27 hx hZ hown (hw _ (List.mem_of_getElem? (i := 4) rfl)) (own_sa hw) e22 (State.WarmedH.since (State.WarmedH.refl s) 0) (Nat.zero_le _) (g := (mkF m 34 #[.val (.int p0), .val (.int p1), .val (.int p2), .val (.int p3), .val (.int p4), .val (.int p5), .val (.ref b2), .val (.ref b5), .unset, .unset, .unset, .unset, .unset, .unset, .unset, .unset, .unset] [(.ref b22), (.ref b22)])) rfl (hb hby at_34) (n := 4) (by decide) (by decide) (by decide) (by decide)
  have hZ := hZ27
  have hown := hown27
  have K29 : Steps p.tables e below _ (T27.setTop (mkF m 36 #[.val (.int p0), .val (.int p1), .val (.int p2), .val (.int p3), .val (.int p4), .val (.int p5), .val (.ref b2), .val (.ref b5), .unset, .unset, .unset, .unset, .unset, .unset, .unset, .unset, .unset] [(.ref b27), (.ref b22), (.ref b22)])) := K26.trans (st27 _ (Steps.refl _))
  have K30 : Steps p.tables e below _ (T27.setTop (mkF m 41 #[.val (.int p0), .val (.int p1), .val (.int p2), .val (.int p3), .val (.int p4), .val (.int p5), .val (.ref b2), .val (.ref b5), .unset, .unset, .unset, .unset, .unset, .unset, .unset, .unset, .unset] [(.int (0 : Int32)), (.ref b5), (.ref b2), (.ref b27), (.ref b22), (.ref b22)])) := K29.trans (by
    show Steps p.tables e below (T27.setTop (mkF m 36 #[.val (.int p0), .val (.int p1), .val (.int p2), .val (.int p3), .val (.int p4), .val (.int p5), .val (.ref b2), .val (.ref b5), .unset, .unset, .unset, .unset, .unset, .unset, .unset, .unset, .unset] [(.ref b27), (.ref b22), (.ref b22)])) _
    refine XS.aload X27.here hx rfl (hb hby at_36) rfl rfl ?_
    show Steps p.tables e below (T27.setTop (mkF m 38 #[.val (.int p0), .val (.int p1), .val (.int p2), .val (.int p3), .val (.int p4), .val (.int p5), .val (.ref b2), .val (.ref b5), .unset, .unset, .unset, .unset, .unset, .unset, .unset, .unset, .unset] [(.ref b2), (.ref b27), (.ref b22), (.ref b22)])) _
    refine XS.aload X27.here hx rfl (hb hby at_38) rfl rfl ?_
    show Steps p.tables e below (T27.setTop (mkF m 40 #[.val (.int p0), .val (.int p1), .val (.int p2), .val (.int p3), .val (.int p4), .val (.int p5), .val (.ref b2), .val (.ref b5), .unset, .unset, .unset, .unset, .unset, .unset, .unset, .unset, .unset] [(.ref b5), (.ref b2), (.ref b27), (.ref b22), (.ref b22)])) _
    refine XS.iconst X27.here hx rfl (hb hby at_40) ?_
    show Steps p.tables e below (T27.setTop (mkF m 41 #[.val (.int p0), .val (.int p1), .val (.int p2), .val (.int p3), .val (.int p4), .val (.int p5), .val (.ref b2), .val (.ref b5), .unset, .unset, .unset, .unset, .unset, .unset, .unset, .unset, .unset] [(.int (0 : Int32)), (.ref b5), (.ref b2), (.ref b27), (.ref b22), (.ref b22)])) _
    exact Steps.refl _)
  have Z_31 : n0 ≤ h27.size := (Nat.le_trans Z_28 E27.1)
  have E_32 : Exa Z h27 b22 "com/example/futures_from_states/futuresfromstates/model/ArrayVariable" := (A22.ext E27)
  have V_33 : Arv Z h27 b2 k2 .int (2 : Int32) [(.int p0), (.int p2)] (.int (0 : Int32)) := ((V_24.ext E22).ext E27)
  have V_34 : Arv Z h27 b5 k5 .int (2 : Int32) [(.int p1), (.int p3)] (.int (0 : Int32)) := ((Vw20.ext E22).ext E27)
  have F_35 : Fld Z h27 b22 "com/example/futures_from_states/futuresfromstates/model/ArrayVariable" "name" "Ljava/lang/String;" .null := (F22_name.ext E27)
  have F_36 : Fld Z h27 b22 "com/example/futures_from_states/futuresfromstates/model/ArrayVariable" "lows" "[I" .null := (F22_lows.ext E27)
  have F_37 : Fld Z h27 b22 "com/example/futures_from_states/futuresfromstates/model/ArrayVariable" "highs" "[I" .null := (F22_highs.ext E27)
  have F_38 : Fld Z h27 b22 "com/example/futures_from_states/futuresfromstates/model/ArrayVariable" "firstSlot" "I" (.int (0 : Int32)) := (F22_firstSlot.ext E27)
  have F_39 : Fld Z h27 b22 "com/example/futures_from_states/futuresfromstates/model/ArrayVariable" "strides" "[I" .null := (F22_strides.ext E27)
  obtain ⟨_, _, ⟨T40, L40, k40, n40⟩, -, X40, ⟨Lc40, hQ40, l40, y40, z40⟩, st40⟩ := X27.specialBack hx (y := (⟨"com/example/futures_from_states/futuresfromstates/model/ArrayVariable", "<init>", "(Ljava/lang/String;[I[II)V"⟩ : MethodName)) rfl hown (mvT hZ (hw _ (List.mem_of_getElem? (i := 12) rfl))) (mvT hZ (hw _ (List.mem_of_getElem? (i := 13) rfl))) (mvT hZ (hw _ (List.mem_of_getElem? (i := 14) rfl))) (by decide) (backOf (W := 1) (rm1 l Z a0 hw [] b22 b27 b2 b5 (0 : Int32) k2 p0 p2 k5 p1 p3 .null .null .null (.int (0 : Int32)) .null h27 n0 Z_31 E_32 V_33 V_34 (Ne.symm ne_b2_b22) (Ne.symm ne_b5_b22) ge_b22 F_35 F_36 F_37 F_38 F_39) hZ (hw _ (List.mem_of_getElem? (i := 14) rfl)) (hw _ (List.mem_of_getElem? (i := 3) rfl)) (by decide) (by decide)) (g := (mkF m 41 #[.val (.int p0), .val (.int p1), .val (.int p2), .val (.int p3), .val (.int p4), .val (.int p5), .val (.ref b2), .val (.ref b5), .unset, .unset, .unset, .unset, .unset, .unset, .unset, .unset, .unset] [(.int (0 : Int32)), (.ref b5), (.ref b2), (.ref b27), (.ref b22), (.ref b22)])) rfl (by rw [hml]; rfl) K30 (a := b22) (argsL := [(.ref b27), (.ref b2), (.ref b5), (.int (0 : Int32))]) (rest := [(.ref b22)]) (lenOf pd_0 rfl) rfl (by show 2 * 0 + _ ≤ _; exact Nat.le_of_eq rfl) (hb hby at_41) (fun _ _ => ⟨rfl, e27, (by decide : 5 + 1 ≤ _), (by decide : 17 + 2 ≤ _)⟩)
  dsimp only [Pt.U, Pt.locs, Pt.cells, Pt.slots] at X40 l40 y40 z40 st40 hQ40
  subst l40 y40 z40
  obtain ⟨b40_b24, k24_40, rfl, N40, Kp40, Q40_0, Q40_1, Q40_2, Q40_3, Q40_4, Q40_5, Q40_6, Q40_7, sz40_b24⟩ := hQ40
  have ne_b2_b40_b24 : b2 ≠ b40_b24 := Nat.ne_of_lt (Nat.lt_of_lt_of_le V_33.lt sz40_b24)
  have ne_b5_b40_b24 : b5 ≠ b40_b24 := Nat.ne_of_lt (Nat.lt_of_lt_of_le V_34.lt sz40_b24)
  have ne_b22_b40_b24 : b22 ≠ b40_b24 := Nat.ne_of_lt (Nat.lt_of_lt_of_le E_32.lt sz40_b24)
  have ge_b40_b24 : n0 ≤ b40_b24 := Nat.le_trans Z_31 sz40_b24
  have N40' := Fr.app N20 N40
  have K41 : Steps p.tables e below _ (T40.setTop (mkF m 44 #[.val (.int p0), .val (.int p1), .val (.int p2), .val (.int p3), .val (.int p4), .val (.int p5), .val (.ref b2), .val (.ref b5), .unset, .unset, .unset, .unset, .unset, .unset, .unset, .unset, .unset] [(.ref b22)])) := st40
  have K42 : Steps p.tables e below _ (T40.setTop (mkF m 54 #[.val (.int p0), .val (.int p1), .val (.int p2), .val (.int p3), .val (.int p4), .val (.int p5), .val (.ref b2), .val (.ref b5), .val (.ref b22), .val (.int (p5 &&& (1 : Int32))), .unset, .unset, .unset, .unset, .unset, .unset, .unset] [(.int (p5 &&& (1 : Int32)))])) := K41.trans (by
    show Steps p.tables e below (T40.setTop (mkF m 44 #[.val (.int p0), .val (.int p1), .val (.int p2), .val (.int p3), .val (.int p4), .val (.int p5), .val (.ref b2), .val (.ref b5), .unset, .unset, .unset, .unset, .unset, .unset, .unset, .unset, .unset] [(.ref b22)])) _
    refine XS.astore X40.here hx rfl (hb hby at_44) rfl rfl (l' := #[.val (.int p0), .val (.int p1), .val (.int p2), .val (.int p3), .val (.int p4), .val (.int p5), .val (.ref b2), .val (.ref b5), .val (.ref b22), .unset, .unset, .unset, .unset, .unset, .unset, .unset, .unset]) rfl ?_
    show Steps p.tables e below (T40.setTop (mkF m 46 #[.val (.int p0), .val (.int p1), .val (.int p2), .val (.int p3), .val (.int p4), .val (.int p5), .val (.ref b2), .val (.ref b5), .val (.ref b22), .unset, .unset, .unset, .unset, .unset, .unset, .unset, .unset] [])) _
    refine XS.iload X40.here hx rfl (hb hby at_46) rfl ?_
    show Steps p.tables e below (T40.setTop (mkF m 48 #[.val (.int p0), .val (.int p1), .val (.int p2), .val (.int p3), .val (.int p4), .val (.int p5), .val (.ref b2), .val (.ref b5), .val (.ref b22), .unset, .unset, .unset, .unset, .unset, .unset, .unset, .unset] [(.int p5)])) _
    refine XS.iconst X40.here hx rfl (hb hby at_48) ?_
    show Steps p.tables e below (T40.setTop (mkF m 49 #[.val (.int p0), .val (.int p1), .val (.int p2), .val (.int p3), .val (.int p4), .val (.int p5), .val (.ref b2), .val (.ref b5), .val (.ref b22), .unset, .unset, .unset, .unset, .unset, .unset, .unset, .unset] [(.int (1 : Int32)), (.int p5)])) _
    refine XS.iand X40.here hx rfl (hb hby at_49) rfl ?_
    show Steps p.tables e below (T40.setTop (mkF m 50 #[.val (.int p0), .val (.int p1), .val (.int p2), .val (.int p3), .val (.int p4), .val (.int p5), .val (.ref b2), .val (.ref b5), .val (.ref b22), .unset, .unset, .unset, .unset, .unset, .unset, .unset, .unset] [(.int (p5 &&& (1 : Int32)))])) _
    refine XS.istore X40.here hx rfl (hb hby at_50) rfl (l' := #[.val (.int p0), .val (.int p1), .val (.int p2), .val (.int p3), .val (.int p4), .val (.int p5), .val (.ref b2), .val (.ref b5), .val (.ref b22), .val (.int (p5 &&& (1 : Int32))), .unset, .unset, .unset, .unset, .unset, .unset, .unset]) rfl ?_
    show Steps p.tables e below (T40.setTop (mkF m 52 #[.val (.int p0), .val (.int p1), .val (.int p2), .val (.int p3), .val (.int p4), .val (.int p5), .val (.ref b2), .val (.ref b5), .val (.ref b22), .val (.int (p5 &&& (1 : Int32))), .unset, .unset, .unset, .unset, .unset, .unset, .unset] [])) _
    refine XS.iload X40.here hx rfl (hb hby at_52) rfl ?_
    show Steps p.tables e below (T40.setTop (mkF m 54 #[.val (.int p0), .val (.int p1), .val (.int p2), .val (.int p3), .val (.int p4), .val (.int p5), .val (.ref b2), .val (.ref b5), .val (.ref b22), .val (.int (p5 &&& (1 : Int32))), .unset, .unset, .unset, .unset, .unset, .unset, .unset] [(.int (p5 &&& (1 : Int32)))])) _
    exact Steps.refl _)
  obtain ⟨v43_0, hv43_0, S43⟩ : ∃ (v43_0 : Int64), (if (p5 &&& (1 : Int32)) = (0 : Int32) then (p0.toInt64) else (p2.toInt64)) = v43_0 ∧ Steps p.tables e below (T40.setTop (mkF m 54 #[.val (.int p0), .val (.int p1), .val (.int p2), .val (.int p3), .val (.int p4), .val (.int p5), .val (.ref b2), .val (.ref b5), .val (.ref b22), .val (.int (p5 &&& (1 : Int32))), .unset, .unset, .unset, .unset, .unset, .unset, .unset] [(.int (p5 &&& (1 : Int32)))])) (T40.setTop (mkF m 64 #[.val (.int p0), .val (.int p1), .val (.int p2), .val (.int p3), .val (.int p4), .val (.int p5), .val (.ref b2), .val (.ref b5), .val (.ref b22), .val (.int (p5 &&& (1 : Int32))), .unset, .unset, .unset, .unset, .unset, .unset, .unset] [(.long v43_0)])) := by
    have R43 : Steps p.tables e below (T40.setTop (mkF m 54 #[.val (.int p0), .val (.int p1), .val (.int p2), .val (.int p3), .val (.int p4), .val (.int p5), .val (.ref b2), .val (.ref b5), .val (.ref b22), .val (.int (p5 &&& (1 : Int32))), .unset, .unset, .unset, .unset, .unset, .unset, .unset] [(.int (p5 &&& (1 : Int32)))])) (T40.setTop (mkF m 54 #[.val (.int p0), .val (.int p1), .val (.int p2), .val (.int p3), .val (.int p4), .val (.int p5), .val (.ref b2), .val (.ref b5), .val (.ref b22), .val (.int (p5 &&& (1 : Int32))), .unset, .unset, .unset, .unset, .unset, .unset, .unset] [(.int (p5 &&& (1 : Int32)))])) := Steps.refl _
    by_cases hc54 : (p5 &&& (1 : Int32)) = (0 : Int32)
    · have K44 : Steps p.tables e below _ (T40.setTop (mkF m 64 #[.val (.int p0), .val (.int p1), .val (.int p2), .val (.int p3), .val (.int p4), .val (.int p5), .val (.ref b2), .val (.ref b5), .val (.ref b22), .val (.int (p5 &&& (1 : Int32))), .unset, .unset, .unset, .unset, .unset, .unset, .unset] [(.long (p0.toInt64))])) := R43.trans (by
        show Steps p.tables e below (T40.setTop (mkF m 54 #[.val (.int p0), .val (.int p1), .val (.int p2), .val (.int p3), .val (.int p4), .val (.int p5), .val (.ref b2), .val (.ref b5), .val (.ref b22), .val (.int (p5 &&& (1 : Int32))), .unset, .unset, .unset, .unset, .unset, .unset, .unset] [(.int (p5 &&& (1 : Int32)))])) _
        refine XS.ifNo X40.here hx rfl (hb hby at_54) rfl ((if0 _ _).trans (teq hc54).2) ?_
        show Steps p.tables e below (T40.setTop (mkF m 57 #[.val (.int p0), .val (.int p1), .val (.int p2), .val (.int p3), .val (.int p4), .val (.int p5), .val (.ref b2), .val (.ref b5), .val (.ref b22), .val (.int (p5 &&& (1 : Int32))), .unset, .unset, .unset, .unset, .unset, .unset, .unset] [])) _
        refine XS.iloadN X40.here hx rfl (hb hby at_57) rfl ?_
        show Steps p.tables e below (T40.setTop (mkF m 58 #[.val (.int p0), .val (.int p1), .val (.int p2), .val (.int p3), .val (.int p4), .val (.int p5), .val (.ref b2), .val (.ref b5), .val (.ref b22), .val (.int (p5 &&& (1 : Int32))), .unset, .unset, .unset, .unset, .unset, .unset, .unset] [(.int p0)])) _
        refine XS.i2l X40.here hx rfl (hb hby at_58) rfl ?_
        show Steps p.tables e below (T40.setTop (mkF m 59 #[.val (.int p0), .val (.int p1), .val (.int p2), .val (.int p3), .val (.int p4), .val (.int p5), .val (.ref b2), .val (.ref b5), .val (.ref b22), .val (.int (p5 &&& (1 : Int32))), .unset, .unset, .unset, .unset, .unset, .unset, .unset] [(.long (p0.toInt64))])) _
        refine XS.goto X40.here hx rfl (pc0 := 59) (pc' := 64) rfl (hb hby at_59) (by decide) (by decide) ?_
        show Steps p.tables e below (T40.setTop (mkF m 64 #[.val (.int p0), .val (.int p1), .val (.int p2), .val (.int p3), .val (.int p4), .val (.int p5), .val (.ref b2), .val (.ref b5), .val (.ref b22), .val (.int (p5 &&& (1 : Int32))), .unset, .unset, .unset, .unset, .unset, .unset, .unset] [(.long (p0.toInt64))])) _
        exact Steps.refl _)
      exact ⟨(p0.toInt64), (by rw [if_pos hc54]), K44⟩
    · have K45 : Steps p.tables e below _ (T40.setTop (mkF m 64 #[.val (.int p0), .val (.int p1), .val (.int p2), .val (.int p3), .val (.int p4), .val (.int p5), .val (.ref b2), .val (.ref b5), .val (.ref b22), .val (.int (p5 &&& (1 : Int32))), .unset, .unset, .unset, .unset, .unset, .unset, .unset] [(.long (p2.toInt64))])) := R43.trans (by
        show Steps p.tables e below (T40.setTop (mkF m 54 #[.val (.int p0), .val (.int p1), .val (.int p2), .val (.int p3), .val (.int p4), .val (.int p5), .val (.ref b2), .val (.ref b5), .val (.ref b22), .val (.int (p5 &&& (1 : Int32))), .unset, .unset, .unset, .unset, .unset, .unset, .unset] [(.int (p5 &&& (1 : Int32)))])) _
        refine XS.ifYes X40.here hx rfl (pc0 := 54) (pc' := 62) rfl (hb hby at_54) rfl ((if0 _ _).trans (feq hc54).2) (by decide) (by decide) ?_
        show Steps p.tables e below (T40.setTop (mkF m 62 #[.val (.int p0), .val (.int p1), .val (.int p2), .val (.int p3), .val (.int p4), .val (.int p5), .val (.ref b2), .val (.ref b5), .val (.ref b22), .val (.int (p5 &&& (1 : Int32))), .unset, .unset, .unset, .unset, .unset, .unset, .unset] [])) _
        refine XS.iloadN X40.here hx rfl (hb hby at_62) rfl ?_
        show Steps p.tables e below (T40.setTop (mkF m 63 #[.val (.int p0), .val (.int p1), .val (.int p2), .val (.int p3), .val (.int p4), .val (.int p5), .val (.ref b2), .val (.ref b5), .val (.ref b22), .val (.int (p5 &&& (1 : Int32))), .unset, .unset, .unset, .unset, .unset, .unset, .unset] [(.int p2)])) _
        refine XS.i2l X40.here hx rfl (hb hby at_63) rfl ?_
        show Steps p.tables e below (T40.setTop (mkF m 64 #[.val (.int p0), .val (.int p1), .val (.int p2), .val (.int p3), .val (.int p4), .val (.int p5), .val (.ref b2), .val (.ref b5), .val (.ref b22), .val (.int (p5 &&& (1 : Int32))), .unset, .unset, .unset, .unset, .unset, .unset, .unset] [(.long (p2.toInt64))])) _
        exact Steps.refl _)
      exact ⟨(p2.toInt64), (by rw [if_neg hc54]), K45⟩
  have K46 := K42.trans S43
  have K47 : Steps p.tables e below _ (T40.setTop (mkF m 68 #[.val (.int p0), .val (.int p1), .val (.int p2), .val (.int p3), .val (.int p4), .val (.int p5), .val (.ref b2), .val (.ref b5), .val (.ref b22), .val (.int (p5 &&& (1 : Int32))), .val (.long v43_0), .second, .unset, .unset, .unset, .unset, .unset] [(.int (p5 &&& (1 : Int32)))])) := K46.trans (by
    show Steps p.tables e below (T40.setTop (mkF m 64 #[.val (.int p0), .val (.int p1), .val (.int p2), .val (.int p3), .val (.int p4), .val (.int p5), .val (.ref b2), .val (.ref b5), .val (.ref b22), .val (.int (p5 &&& (1 : Int32))), .unset, .unset, .unset, .unset, .unset, .unset, .unset] [(.long v43_0)])) _
    refine XS.lstore X40.here hx rfl (hb hby at_64) rfl (l' := #[.val (.int p0), .val (.int p1), .val (.int p2), .val (.int p3), .val (.int p4), .val (.int p5), .val (.ref b2), .val (.ref b5), .val (.ref b22), .val (.int (p5 &&& (1 : Int32))), .val (.long v43_0), .second, .unset, .unset, .unset, .unset, .unset]) rfl ?_
    show Steps p.tables e below (T40.setTop (mkF m 66 #[.val (.int p0), .val (.int p1), .val (.int p2), .val (.int p3), .val (.int p4), .val (.int p5), .val (.ref b2), .val (.ref b5), .val (.ref b22), .val (.int (p5 &&& (1 : Int32))), .val (.long v43_0), .second, .unset, .unset, .unset, .unset, .unset] [])) _
    refine XS.iload X40.here hx rfl (hb hby at_66) rfl ?_
    show Steps p.tables e below (T40.setTop (mkF m 68 #[.val (.int p0), .val (.int p1), .val (.int p2), .val (.int p3), .val (.int p4), .val (.int p5), .val (.ref b2), .val (.ref b5), .val (.ref b22), .val (.int (p5 &&& (1 : Int32))), .val (.long v43_0), .second, .unset, .unset, .unset, .unset, .unset] [(.int (p5 &&& (1 : Int32)))])) _
    exact Steps.refl _)
  obtain ⟨v48_0, hv48_0, S48⟩ : ∃ (v48_0 : Int64), (if (p5 &&& (1 : Int32)) = (0 : Int32) then (p1.toInt64) else (p3.toInt64)) = v48_0 ∧ Steps p.tables e below (T40.setTop (mkF m 68 #[.val (.int p0), .val (.int p1), .val (.int p2), .val (.int p3), .val (.int p4), .val (.int p5), .val (.ref b2), .val (.ref b5), .val (.ref b22), .val (.int (p5 &&& (1 : Int32))), .val (.long v43_0), .second, .unset, .unset, .unset, .unset, .unset] [(.int (p5 &&& (1 : Int32)))])) (T40.setTop (mkF m 78 #[.val (.int p0), .val (.int p1), .val (.int p2), .val (.int p3), .val (.int p4), .val (.int p5), .val (.ref b2), .val (.ref b5), .val (.ref b22), .val (.int (p5 &&& (1 : Int32))), .val (.long v43_0), .second, .unset, .unset, .unset, .unset, .unset] [(.long v48_0)])) := by
    have R48 : Steps p.tables e below (T40.setTop (mkF m 68 #[.val (.int p0), .val (.int p1), .val (.int p2), .val (.int p3), .val (.int p4), .val (.int p5), .val (.ref b2), .val (.ref b5), .val (.ref b22), .val (.int (p5 &&& (1 : Int32))), .val (.long v43_0), .second, .unset, .unset, .unset, .unset, .unset] [(.int (p5 &&& (1 : Int32)))])) (T40.setTop (mkF m 68 #[.val (.int p0), .val (.int p1), .val (.int p2), .val (.int p3), .val (.int p4), .val (.int p5), .val (.ref b2), .val (.ref b5), .val (.ref b22), .val (.int (p5 &&& (1 : Int32))), .val (.long v43_0), .second, .unset, .unset, .unset, .unset, .unset] [(.int (p5 &&& (1 : Int32)))])) := Steps.refl _
    by_cases hc68 : (p5 &&& (1 : Int32)) = (0 : Int32)
    · have K49 : Steps p.tables e below _ (T40.setTop (mkF m 78 #[.val (.int p0), .val (.int p1), .val (.int p2), .val (.int p3), .val (.int p4), .val (.int p5), .val (.ref b2), .val (.ref b5), .val (.ref b22), .val (.int (p5 &&& (1 : Int32))), .val (.long v43_0), .second, .unset, .unset, .unset, .unset, .unset] [(.long (p1.toInt64))])) := R48.trans (by
        show Steps p.tables e below (T40.setTop (mkF m 68 #[.val (.int p0), .val (.int p1), .val (.int p2), .val (.int p3), .val (.int p4), .val (.int p5), .val (.ref b2), .val (.ref b5), .val (.ref b22), .val (.int (p5 &&& (1 : Int32))), .val (.long v43_0), .second, .unset, .unset, .unset, .unset, .unset] [(.int (p5 &&& (1 : Int32)))])) _
        refine XS.ifNo X40.here hx rfl (hb hby at_68) rfl ((if0 _ _).trans (teq hc68).2) ?_
        show Steps p.tables e below (T40.setTop (mkF m 71 #[.val (.int p0), .val (.int p1), .val (.int p2), .val (.int p3), .val (.int p4), .val (.int p5), .val (.ref b2), .val (.ref b5), .val (.ref b22), .val (.int (p5 &&& (1 : Int32))), .val (.long v43_0), .second, .unset, .unset, .unset, .unset, .unset] [])) _
        refine XS.iloadN X40.here hx rfl (hb hby at_71) rfl ?_
        show Steps p.tables e below (T40.setTop (mkF m 72 #[.val (.int p0), .val (.int p1), .val (.int p2), .val (.int p3), .val (.int p4), .val (.int p5), .val (.ref b2), .val (.ref b5), .val (.ref b22), .val (.int (p5 &&& (1 : Int32))), .val (.long v43_0), .second, .unset, .unset, .unset, .unset, .unset] [(.int p1)])) _
        refine XS.i2l X40.here hx rfl (hb hby at_72) rfl ?_
        show Steps p.tables e below (T40.setTop (mkF m 73 #[.val (.int p0), .val (.int p1), .val (.int p2), .val (.int p3), .val (.int p4), .val (.int p5), .val (.ref b2), .val (.ref b5), .val (.ref b22), .val (.int (p5 &&& (1 : Int32))), .val (.long v43_0), .second, .unset, .unset, .unset, .unset, .unset] [(.long (p1.toInt64))])) _
        refine XS.goto X40.here hx rfl (pc0 := 73) (pc' := 78) rfl (hb hby at_73) (by decide) (by decide) ?_
        show Steps p.tables e below (T40.setTop (mkF m 78 #[.val (.int p0), .val (.int p1), .val (.int p2), .val (.int p3), .val (.int p4), .val (.int p5), .val (.ref b2), .val (.ref b5), .val (.ref b22), .val (.int (p5 &&& (1 : Int32))), .val (.long v43_0), .second, .unset, .unset, .unset, .unset, .unset] [(.long (p1.toInt64))])) _
        exact Steps.refl _)
      exact ⟨(p1.toInt64), (by rw [if_pos hc68]), K49⟩
    · have K50 : Steps p.tables e below _ (T40.setTop (mkF m 78 #[.val (.int p0), .val (.int p1), .val (.int p2), .val (.int p3), .val (.int p4), .val (.int p5), .val (.ref b2), .val (.ref b5), .val (.ref b22), .val (.int (p5 &&& (1 : Int32))), .val (.long v43_0), .second, .unset, .unset, .unset, .unset, .unset] [(.long (p3.toInt64))])) := R48.trans (by
        show Steps p.tables e below (T40.setTop (mkF m 68 #[.val (.int p0), .val (.int p1), .val (.int p2), .val (.int p3), .val (.int p4), .val (.int p5), .val (.ref b2), .val (.ref b5), .val (.ref b22), .val (.int (p5 &&& (1 : Int32))), .val (.long v43_0), .second, .unset, .unset, .unset, .unset, .unset] [(.int (p5 &&& (1 : Int32)))])) _
        refine XS.ifYes X40.here hx rfl (pc0 := 68) (pc' := 76) rfl (hb hby at_68) rfl ((if0 _ _).trans (feq hc68).2) (by decide) (by decide) ?_
        show Steps p.tables e below (T40.setTop (mkF m 76 #[.val (.int p0), .val (.int p1), .val (.int p2), .val (.int p3), .val (.int p4), .val (.int p5), .val (.ref b2), .val (.ref b5), .val (.ref b22), .val (.int (p5 &&& (1 : Int32))), .val (.long v43_0), .second, .unset, .unset, .unset, .unset, .unset] [])) _
        refine XS.iloadN X40.here hx rfl (hb hby at_76) rfl ?_
        show Steps p.tables e below (T40.setTop (mkF m 77 #[.val (.int p0), .val (.int p1), .val (.int p2), .val (.int p3), .val (.int p4), .val (.int p5), .val (.ref b2), .val (.ref b5), .val (.ref b22), .val (.int (p5 &&& (1 : Int32))), .val (.long v43_0), .second, .unset, .unset, .unset, .unset, .unset] [(.int p3)])) _
        refine XS.i2l X40.here hx rfl (hb hby at_77) rfl ?_
        show Steps p.tables e below (T40.setTop (mkF m 78 #[.val (.int p0), .val (.int p1), .val (.int p2), .val (.int p3), .val (.int p4), .val (.int p5), .val (.ref b2), .val (.ref b5), .val (.ref b22), .val (.int (p5 &&& (1 : Int32))), .val (.long v43_0), .second, .unset, .unset, .unset, .unset, .unset] [(.long (p3.toInt64))])) _
        exact Steps.refl _)
      exact ⟨(p3.toInt64), (by rw [if_neg hc68]), K50⟩
  have K51 := K47.trans S48
  have K52 : Steps p.tables e below _ (T40.setTop (mkF m 88 #[.val (.int p0), .val (.int p1), .val (.int p2), .val (.int p3), .val (.int p4), .val (.int p5), .val (.ref b2), .val (.ref b5), .val (.ref b22), .val (.int (p5 &&& (1 : Int32))), .val (.long v43_0), .second, .val (.long v48_0), .second, .unset, .unset, .unset] [(.int (lcmpW ((p4.toInt64) - v43_0) (0 : Int64)))])) := K51.trans (by
    show Steps p.tables e below (T40.setTop (mkF m 78 #[.val (.int p0), .val (.int p1), .val (.int p2), .val (.int p3), .val (.int p4), .val (.int p5), .val (.ref b2), .val (.ref b5), .val (.ref b22), .val (.int (p5 &&& (1 : Int32))), .val (.long v43_0), .second, .unset, .unset, .unset, .unset, .unset] [(.long v48_0)])) _
    refine XS.lstore X40.here hx rfl (hb hby at_78) rfl (l' := #[.val (.int p0), .val (.int p1), .val (.int p2), .val (.int p3), .val (.int p4), .val (.int p5), .val (.ref b2), .val (.ref b5), .val (.ref b22), .val (.int (p5 &&& (1 : Int32))), .val (.long v43_0), .second, .val (.long v48_0), .second, .unset, .unset, .unset]) rfl ?_
    show Steps p.tables e below (T40.setTop (mkF m 80 #[.val (.int p0), .val (.int p1), .val (.int p2), .val (.int p3), .val (.int p4), .val (.int p5), .val (.ref b2), .val (.ref b5), .val (.ref b22), .val (.int (p5 &&& (1 : Int32))), .val (.long v43_0), .second, .val (.long v48_0), .second, .unset, .unset, .unset] [])) _
    refine XS.iload X40.here hx rfl (hb hby at_80) rfl ?_
    show Steps p.tables e below (T40.setTop (mkF m 82 #[.val (.int p0), .val (.int p1), .val (.int p2), .val (.int p3), .val (.int p4), .val (.int p5), .val (.ref b2), .val (.ref b5), .val (.ref b22), .val (.int (p5 &&& (1 : Int32))), .val (.long v43_0), .second, .val (.long v48_0), .second, .unset, .unset, .unset] [(.int p4)])) _
    refine XS.i2l X40.here hx rfl (hb hby at_82) rfl ?_
    show Steps p.tables e below (T40.setTop (mkF m 83 #[.val (.int p0), .val (.int p1), .val (.int p2), .val (.int p3), .val (.int p4), .val (.int p5), .val (.ref b2), .val (.ref b5), .val (.ref b22), .val (.int (p5 &&& (1 : Int32))), .val (.long v43_0), .second, .val (.long v48_0), .second, .unset, .unset, .unset] [(.long (p4.toInt64))])) _
    refine XS.lload X40.here hx rfl (hb hby at_83) rfl ?_
    show Steps p.tables e below (T40.setTop (mkF m 85 #[.val (.int p0), .val (.int p1), .val (.int p2), .val (.int p3), .val (.int p4), .val (.int p5), .val (.ref b2), .val (.ref b5), .val (.ref b22), .val (.int (p5 &&& (1 : Int32))), .val (.long v43_0), .second, .val (.long v48_0), .second, .unset, .unset, .unset] [(.long v43_0), (.long (p4.toInt64))])) _
    refine XS.lsub X40.here hx rfl (hb hby at_85) rfl ?_
    show Steps p.tables e below (T40.setTop (mkF m 86 #[.val (.int p0), .val (.int p1), .val (.int p2), .val (.int p3), .val (.int p4), .val (.int p5), .val (.ref b2), .val (.ref b5), .val (.ref b22), .val (.int (p5 &&& (1 : Int32))), .val (.long v43_0), .second, .val (.long v48_0), .second, .unset, .unset, .unset] [(.long ((p4.toInt64) - v43_0))])) _
    refine XS.lconst X40.here hx rfl (hb hby at_86) ?_
    show Steps p.tables e below (T40.setTop (mkF m 87 #[.val (.int p0), .val (.int p1), .val (.int p2), .val (.int p3), .val (.int p4), .val (.int p5), .val (.ref b2), .val (.ref b5), .val (.ref b22), .val (.int (p5 &&& (1 : Int32))), .val (.long v43_0), .second, .val (.long v48_0), .second, .unset, .unset, .unset] [(.long (0 : Int64)), (.long ((p4.toInt64) - v43_0))])) _
    refine XS.lcmp X40.here hx rfl (hb hby at_87) rfl ?_
    show Steps p.tables e below (T40.setTop (mkF m 88 #[.val (.int p0), .val (.int p1), .val (.int p2), .val (.int p3), .val (.int p4), .val (.int p5), .val (.ref b2), .val (.ref b5), .val (.ref b22), .val (.int (p5 &&& (1 : Int32))), .val (.long v43_0), .second, .val (.long v48_0), .second, .unset, .unset, .unset] [(.int (lcmpW ((p4.toInt64) - v43_0) (0 : Int64)))])) _
    exact Steps.refl _)
  obtain ⟨v53_0, hv53_0, S53⟩ : ∃ (v53_0 : Int32), (if ((p4.toInt64) - v43_0) < (0 : Int64) then (0 : Int32) else (if (v48_0 - (p4.toInt64)) < (0 : Int64) then (0 : Int32) else (1 : Int32))) = v53_0 ∧ Steps p.tables e below (T40.setTop (mkF m 88 #[.val (.int p0), .val (.int p1), .val (.int p2), .val (.int p3), .val (.int p4), .val (.int p5), .val (.ref b2), .val (.ref b5), .val (.ref b22), .val (.int (p5 &&& (1 : Int32))), .val (.long v43_0), .second, .val (.long v48_0), .second, .unset, .unset, .unset] [(.int (lcmpW ((p4.toInt64) - v43_0) (0 : Int64)))])) (T40.setTop (mkF m 107 #[.val (.int p0), .val (.int p1), .val (.int p2), .val (.int p3), .val (.int p4), .val (.int p5), .val (.ref b2), .val (.ref b5), .val (.ref b22), .val (.int (p5 &&& (1 : Int32))), .val (.long v43_0), .second, .val (.long v48_0), .second, .unset, .unset, .unset] [(.int v53_0)])) := by
    have R53 : Steps p.tables e below (T40.setTop (mkF m 88 #[.val (.int p0), .val (.int p1), .val (.int p2), .val (.int p3), .val (.int p4), .val (.int p5), .val (.ref b2), .val (.ref b5), .val (.ref b22), .val (.int (p5 &&& (1 : Int32))), .val (.long v43_0), .second, .val (.long v48_0), .second, .unset, .unset, .unset] [(.int (lcmpW ((p4.toInt64) - v43_0) (0 : Int64)))])) (T40.setTop (mkF m 88 #[.val (.int p0), .val (.int p1), .val (.int p2), .val (.int p3), .val (.int p4), .val (.int p5), .val (.ref b2), .val (.ref b5), .val (.ref b22), .val (.int (p5 &&& (1 : Int32))), .val (.long v43_0), .second, .val (.long v48_0), .second, .unset, .unset, .unset] [(.int (lcmpW ((p4.toInt64) - v43_0) (0 : Int64)))])) := Steps.refl _
    by_cases hc88 : ((p4.toInt64) - v43_0) < (0 : Int64)
    · have K54 : Steps p.tables e below _ (T40.setTop (mkF m 107 #[.val (.int p0), .val (.int p1), .val (.int p2), .val (.int p3), .val (.int p4), .val (.int p5), .val (.ref b2), .val (.ref b5), .val (.ref b22), .val (.int (p5 &&& (1 : Int32))), .val (.long v43_0), .second, .val (.long v48_0), .second, .unset, .unset, .unset] [(.int (0 : Int32))])) := R53.trans (by
        show Steps p.tables e below (T40.setTop (mkF m 88 #[.val (.int p0), .val (.int p1), .val (.int p2), .val (.int p3), .val (.int p4), .val (.int p5), .val (.ref b2), .val (.ref b5), .val (.ref b22), .val (.int (p5 &&& (1 : Int32))), .val (.long v43_0), .second, .val (.long v48_0), .second, .unset, .unset, .unset] [(.int (lcmpW ((p4.toInt64) - v43_0) (0 : Int64)))])) _
        refine XS.ifYes X40.here hx rfl (pc0 := 88) (pc' := 106) rfl (hb hby at_88) rfl ((if0 _ _).trans (tlt ((lw_lt ((p4.toInt64) - v43_0) (0 : Int64)).mpr hc88)).1) (by decide) (by decide) ?_
        show Steps p.tables e below (T40.setTop (mkF m 106 #[.val (.int p0), .val (.int p1), .val (.int p2), .val (.int p3), .val (.int p4), .val (.int p5), .val (.ref b2), .val (.ref b5), .val (.ref b22), .val (.int (p5 &&& (1 : Int32))), .val (.long v43_0), .second, .val (.long v48_0), .second, .unset, .unset, .unset] [])) _
        refine XS.iconst X40.here hx rfl (hb hby at_106) ?_
        show Steps p.tables e below (T40.setTop (mkF m 107 #[.val (.int p0), .val (.int p1), .val (.int p2), .val (.int p3), .val (.int p4), .val (.int p5), .val (.ref b2), .val (.ref b5), .val (.ref b22), .val (.int (p5 &&& (1 : Int32))), .val (.long v43_0), .second, .val (.long v48_0), .second, .unset, .unset, .unset] [(.int (0 : Int32))])) _
        exact Steps.refl _)
      exact ⟨(0 : Int32), (by rw [if_pos hc88]), K54⟩
    · have K55 : Steps p.tables e below _ (T40.setTop (mkF m 99 #[.val (.int p0), .val (.int p1), .val (.int p2), .val (.int p3), .val (.int p4), .val (.int p5), .val (.ref b2), .val (.ref b5), .val (.ref b22), .val (.int (p5 &&& (1 : Int32))), .val (.long v43_0), .second, .val (.long v48_0), .second, .unset, .unset, .unset] [(.int (lcmpW (v48_0 - (p4.toInt64)) (0 : Int64)))])) := R53.trans (by
        show Steps p.tables e below (T40.setTop (mkF m 88 #[.val (.int p0), .val (.int p1), .val (.int p2), .val (.int p3), .val (.int p4), .val (.int p5), .val (.ref b2), .val (.ref b5), .val (.ref b22), .val (.int (p5 &&& (1 : Int32))), .val (.long v43_0), .second, .val (.long v48_0), .second, .unset, .unset, .unset] [(.int (lcmpW ((p4.toInt64) - v43_0) (0 : Int64)))])) _
        refine XS.ifNo X40.here hx rfl (hb hby at_88) rfl ((if0 _ _).trans (flt (fun z => hc88 ((lw_lt ((p4.toInt64) - v43_0) (0 : Int64)).mp z))).1) ?_
        show Steps p.tables e below (T40.setTop (mkF m 91 #[.val (.int p0), .val (.int p1), .val (.int p2), .val (.int p3), .val (.int p4), .val (.int p5), .val (.ref b2), .val (.ref b5), .val (.ref b22), .val (.int (p5 &&& (1 : Int32))), .val (.long v43_0), .second, .val (.long v48_0), .second, .unset, .unset, .unset] [])) _
        refine XS.lload X40.here hx rfl (hb hby at_91) rfl ?_
        show Steps p.tables e below (T40.setTop (mkF m 93 #[.val (.int p0), .val (.int p1), .val (.int p2), .val (.int p3), .val (.int p4), .val (.int p5), .val (.ref b2), .val (.ref b5), .val (.ref b22), .val (.int (p5 &&& (1 : Int32))), .val (.long v43_0), .second, .val (.long v48_0), .second, .unset, .unset, .unset] [(.long v48_0)])) _
        refine XS.iload X40.here hx rfl (hb hby at_93) rfl ?_
        show Steps p.tables e below (T40.setTop (mkF m 95 #[.val (.int p0), .val (.int p1), .val (.int p2), .val (.int p3), .val (.int p4), .val (.int p5), .val (.ref b2), .val (.ref b5), .val (.ref b22), .val (.int (p5 &&& (1 : Int32))), .val (.long v43_0), .second, .val (.long v48_0), .second, .unset, .unset, .unset] [(.int p4), (.long v48_0)])) _
        refine XS.i2l X40.here hx rfl (hb hby at_95) rfl ?_
        show Steps p.tables e below (T40.setTop (mkF m 96 #[.val (.int p0), .val (.int p1), .val (.int p2), .val (.int p3), .val (.int p4), .val (.int p5), .val (.ref b2), .val (.ref b5), .val (.ref b22), .val (.int (p5 &&& (1 : Int32))), .val (.long v43_0), .second, .val (.long v48_0), .second, .unset, .unset, .unset] [(.long (p4.toInt64)), (.long v48_0)])) _
        refine XS.lsub X40.here hx rfl (hb hby at_96) rfl ?_
        show Steps p.tables e below (T40.setTop (mkF m 97 #[.val (.int p0), .val (.int p1), .val (.int p2), .val (.int p3), .val (.int p4), .val (.int p5), .val (.ref b2), .val (.ref b5), .val (.ref b22), .val (.int (p5 &&& (1 : Int32))), .val (.long v43_0), .second, .val (.long v48_0), .second, .unset, .unset, .unset] [(.long (v48_0 - (p4.toInt64)))])) _
        refine XS.lconst X40.here hx rfl (hb hby at_97) ?_
        show Steps p.tables e below (T40.setTop (mkF m 98 #[.val (.int p0), .val (.int p1), .val (.int p2), .val (.int p3), .val (.int p4), .val (.int p5), .val (.ref b2), .val (.ref b5), .val (.ref b22), .val (.int (p5 &&& (1 : Int32))), .val (.long v43_0), .second, .val (.long v48_0), .second, .unset, .unset, .unset] [(.long (0 : Int64)), (.long (v48_0 - (p4.toInt64)))])) _
        refine XS.lcmp X40.here hx rfl (hb hby at_98) rfl ?_
        show Steps p.tables e below (T40.setTop (mkF m 99 #[.val (.int p0), .val (.int p1), .val (.int p2), .val (.int p3), .val (.int p4), .val (.int p5), .val (.ref b2), .val (.ref b5), .val (.ref b22), .val (.int (p5 &&& (1 : Int32))), .val (.long v43_0), .second, .val (.long v48_0), .second, .unset, .unset, .unset] [(.int (lcmpW (v48_0 - (p4.toInt64)) (0 : Int64)))])) _
        exact Steps.refl _)
      by_cases hc99 : (v48_0 - (p4.toInt64)) < (0 : Int64)
      · have K56 : Steps p.tables e below _ (T40.setTop (mkF m 107 #[.val (.int p0), .val (.int p1), .val (.int p2), .val (.int p3), .val (.int p4), .val (.int p5), .val (.ref b2), .val (.ref b5), .val (.ref b22), .val (.int (p5 &&& (1 : Int32))), .val (.long v43_0), .second, .val (.long v48_0), .second, .unset, .unset, .unset] [(.int (0 : Int32))])) := K55.trans (by
          show Steps p.tables e below (T40.setTop (mkF m 99 #[.val (.int p0), .val (.int p1), .val (.int p2), .val (.int p3), .val (.int p4), .val (.int p5), .val (.ref b2), .val (.ref b5), .val (.ref b22), .val (.int (p5 &&& (1 : Int32))), .val (.long v43_0), .second, .val (.long v48_0), .second, .unset, .unset, .unset] [(.int (lcmpW (v48_0 - (p4.toInt64)) (0 : Int64)))])) _
          refine XS.ifYes X40.here hx rfl (pc0 := 99) (pc' := 106) rfl (hb hby at_99) rfl ((if0 _ _).trans (tlt ((lw_lt (v48_0 - (p4.toInt64)) (0 : Int64)).mpr hc99)).1) (by decide) (by decide) ?_
          show Steps p.tables e below (T40.setTop (mkF m 106 #[.val (.int p0), .val (.int p1), .val (.int p2), .val (.int p3), .val (.int p4), .val (.int p5), .val (.ref b2), .val (.ref b5), .val (.ref b22), .val (.int (p5 &&& (1 : Int32))), .val (.long v43_0), .second, .val (.long v48_0), .second, .unset, .unset, .unset] [])) _
          refine XS.iconst X40.here hx rfl (hb hby at_106) ?_
          show Steps p.tables e below (T40.setTop (mkF m 107 #[.val (.int p0), .val (.int p1), .val (.int p2), .val (.int p3), .val (.int p4), .val (.int p5), .val (.ref b2), .val (.ref b5), .val (.ref b22), .val (.int (p5 &&& (1 : Int32))), .val (.long v43_0), .second, .val (.long v48_0), .second, .unset, .unset, .unset] [(.int (0 : Int32))])) _
          exact Steps.refl _)
        exact ⟨(0 : Int32), (by rw [if_neg hc88, if_pos hc99]), K56⟩
      · have K57 : Steps p.tables e below _ (T40.setTop (mkF m 107 #[.val (.int p0), .val (.int p1), .val (.int p2), .val (.int p3), .val (.int p4), .val (.int p5), .val (.ref b2), .val (.ref b5), .val (.ref b22), .val (.int (p5 &&& (1 : Int32))), .val (.long v43_0), .second, .val (.long v48_0), .second, .unset, .unset, .unset] [(.int (1 : Int32))])) := K55.trans (by
          show Steps p.tables e below (T40.setTop (mkF m 99 #[.val (.int p0), .val (.int p1), .val (.int p2), .val (.int p3), .val (.int p4), .val (.int p5), .val (.ref b2), .val (.ref b5), .val (.ref b22), .val (.int (p5 &&& (1 : Int32))), .val (.long v43_0), .second, .val (.long v48_0), .second, .unset, .unset, .unset] [(.int (lcmpW (v48_0 - (p4.toInt64)) (0 : Int64)))])) _
          refine XS.ifNo X40.here hx rfl (hb hby at_99) rfl ((if0 _ _).trans (flt (fun z => hc99 ((lw_lt (v48_0 - (p4.toInt64)) (0 : Int64)).mp z))).1) ?_
          show Steps p.tables e below (T40.setTop (mkF m 102 #[.val (.int p0), .val (.int p1), .val (.int p2), .val (.int p3), .val (.int p4), .val (.int p5), .val (.ref b2), .val (.ref b5), .val (.ref b22), .val (.int (p5 &&& (1 : Int32))), .val (.long v43_0), .second, .val (.long v48_0), .second, .unset, .unset, .unset] [])) _
          refine XS.iconst X40.here hx rfl (hb hby at_102) ?_
          show Steps p.tables e below (T40.setTop (mkF m 103 #[.val (.int p0), .val (.int p1), .val (.int p2), .val (.int p3), .val (.int p4), .val (.int p5), .val (.ref b2), .val (.ref b5), .val (.ref b22), .val (.int (p5 &&& (1 : Int32))), .val (.long v43_0), .second, .val (.long v48_0), .second, .unset, .unset, .unset] [(.int (1 : Int32))])) _
          refine XS.goto X40.here hx rfl (pc0 := 103) (pc' := 107) rfl (hb hby at_103) (by decide) (by decide) ?_
          show Steps p.tables e below (T40.setTop (mkF m 107 #[.val (.int p0), .val (.int p1), .val (.int p2), .val (.int p3), .val (.int p4), .val (.int p5), .val (.ref b2), .val (.ref b5), .val (.ref b22), .val (.int (p5 &&& (1 : Int32))), .val (.long v43_0), .second, .val (.long v48_0), .second, .unset, .unset, .unset] [(.int (1 : Int32))])) _
          exact Steps.refl _)
        exact ⟨(1 : Int32), (by rw [if_neg hc88, if_neg hc99]), K57⟩
  have K58 := K52.trans S53
  have K59 : Steps p.tables e below _ (T40.setTop (mkF m 115 #[.val (.int p0), .val (.int p1), .val (.int p2), .val (.int p3), .val (.int p4), .val (.int p5), .val (.ref b2), .val (.ref b5), .val (.ref b22), .val (.int (p5 &&& (1 : Int32))), .val (.long v43_0), .second, .val (.long v48_0), .second, .val (.int v53_0), .unset, .unset] [(.int p4), (.int (p5 &&& (1 : Int32))), (.ref b22)])) := K58.trans (by
    show Steps p.tables e below (T40.setTop (mkF m 107 #[.val (.int p0), .val (.int p1), .val (.int p2), .val (.int p3), .val (.int p4), .val (.int p5), .val (.ref b2), .val (.ref b5), .val (.ref b22), .val (.int (p5 &&& (1 : Int32))), .val (.long v43_0), .second, .val (.long v48_0), .second, .unset, .unset, .unset] [(.int v53_0)])) _
    refine XS.istore X40.here hx rfl (hb hby at_107) rfl (l' := #[.val (.int p0), .val (.int p1), .val (.int p2), .val (.int p3), .val (.int p4), .val (.int p5), .val (.ref b2), .val (.ref b5), .val (.ref b22), .val (.int (p5 &&& (1 : Int32))), .val (.long v43_0), .second, .val (.long v48_0), .second, .val (.int v53_0), .unset, .unset]) rfl ?_
    show Steps p.tables e below (T40.setTop (mkF m 109 #[.val (.int p0), .val (.int p1), .val (.int p2), .val (.int p3), .val (.int p4), .val (.int p5), .val (.ref b2), .val (.ref b5), .val (.ref b22), .val (.int (p5 &&& (1 : Int32))), .val (.long v43_0), .second, .val (.long v48_0), .second, .val (.int v53_0), .unset, .unset] [])) _
    refine XS.aload X40.here hx rfl (hb hby at_109) rfl rfl ?_
    show Steps p.tables e below (T40.setTop (mkF m 111 #[.val (.int p0), .val (.int p1), .val (.int p2), .val (.int p3), .val (.int p4), .val (.int p5), .val (.ref b2), .val (.ref b5), .val (.ref b22), .val (.int (p5 &&& (1 : Int32))), .val (.long v43_0), .second, .val (.long v48_0), .second, .val (.int v53_0), .unset, .unset] [(.ref b22)])) _
    refine XS.iload X40.here hx rfl (hb hby at_111) rfl ?_
    show Steps p.tables e below (T40.setTop (mkF m 113 #[.val (.int p0), .val (.int p1), .val (.int p2), .val (.int p3), .val (.int p4), .val (.int p5), .val (.ref b2), .val (.ref b5), .val (.ref b22), .val (.int (p5 &&& (1 : Int32))), .val (.long v43_0), .second, .val (.long v48_0), .second, .val (.int v53_0), .unset, .unset] [(.int (p5 &&& (1 : Int32))), (.ref b22)])) _
    refine XS.iload X40.here hx rfl (hb hby at_113) rfl ?_
    show Steps p.tables e below (T40.setTop (mkF m 115 #[.val (.int p0), .val (.int p1), .val (.int p2), .val (.int p3), .val (.int p4), .val (.int p5), .val (.ref b2), .val (.ref b5), .val (.ref b22), .val (.int (p5 &&& (1 : Int32))), .val (.long v43_0), .second, .val (.long v48_0), .second, .val (.int v53_0), .unset, .unset] [(.int p4), (.int (p5 &&& (1 : Int32))), (.ref b22)])) _
    exact Steps.refl _)
  have Z_60 : n0 ≤ T40.heap.size := (Nat.le_trans Z_31 Kp40.1)
  have V_61 : Arv Z T40.heap b2 k2 .int (2 : Int32) [(.int p0), (.int p2)] (.int (0 : Int32)) := (V_33.keep Kp40 (ninS ne_b2_b22 nin0))
  have V_62 : Arv Z T40.heap b5 k5 .int (2 : Int32) [(.int p1), (.int p3)] (.int (0 : Int32)) := (V_34.keep Kp40 (ninS ne_b5_b22 nin0))
  obtain ⟨cq63, kq63, q63a, q63b, q63c⟩ := isOf hZ rfl Q40_0
  obtain ⟨_, _, ⟨T63, L63, k63, n63⟩, -, X63, ⟨Lc63, hQ63, l63, y63, z63⟩, st63⟩ := X40.virtualBack hx (y := (⟨"com/example/futures_from_states/futuresfromstates/model/ArrayVariable", "inBounds", "(II)Z"⟩ : MethodName)) (z := (⟨"com/example/futures_from_states/futuresfromstates/model/ArrayVariable", "inBounds", "(II)Z"⟩ : MethodName)) hown (mvT hZ (hw _ (List.mem_of_getElem? (i := 28) rfl))) (mvT hZ (hw _ (List.mem_of_getElem? (i := 29) rfl))) (notFace_of_selects (args := #[]) (mvT hZ (hw _ (List.mem_of_getElem? (i := 31) rfl)))) (mvT hZ (hw _ (List.mem_of_getElem? (i := 31) rfl))) (mvT hZ (hw _ (List.mem_of_getElem? (i := 30) rfl))) (by decide) (backOf (W := 0) (rm3 l Z a0 hw [] b22 (p5 &&& (1 : Int32)) p4 b2 b5 k2 k5 ([(.int p0), (.int p2)]) ([(.int p1), (.int p3)]) (if (p5 &&& (1 : Int32)) = (0 : Int32) then p0 else p2) (if (p5 &&& (1 : Int32)) = (0 : Int32) then p1 else p3) T40.heap n0 Z_60 Q40_2 Q40_3 V_61 V_62 (own_inb p5) (own_sel _ _ _) (own_sel _ _ _)) hZ (hw _ (List.mem_of_getElem? (i := 32) rfl)) (hw _ (List.mem_of_getElem? (i := 3) rfl)) (by decide) (by decide)) q63a q63c (g := (mkF m 115 #[.val (.int p0), .val (.int p1), .val (.int p2), .val (.int p3), .val (.int p4), .val (.int p5), .val (.ref b2), .val (.ref b5), .val (.ref b22), .val (.int (p5 &&& (1 : Int32))), .val (.long v43_0), .second, .val (.long v48_0), .second, .val (.int v53_0), .unset, .unset] [(.int p4), (.int (p5 &&& (1 : Int32))), (.ref b22)])) rfl (by rw [hml]; rfl) K59 (argsL := [(.int (p5 &&& (1 : Int32))), (.int p4)]) (rest := []) (lenOf pd_1 rfl) rfl (by show 2 * 0 + _ ≤ _; exact Nat.le_of_eq rfl) (hb hby at_115) (fun _ _ => ⟨rfl, rfl, (by decide : 6 + 0 ≤ _), (by decide : 19 + 0 ≤ _)⟩)
  dsimp only [Pt.U, Pt.locs, Pt.cells, Pt.slots] at X63 l63 y63 z63 st63 hQ63
  subst l63 y63 z63
  obtain ⟨rfl, N63, eh63⟩ := hQ63
  have N63' := Fr.app N40' N63
  have K65 : Steps p.tables e below _ (T63.setTop (mkF m 118 #[.val (.int p0), .val (.int p1), .val (.int p2), .val (.int p3), .val (.int p4), .val (.int p5), .val (.ref b2), .val (.ref b5), .val (.ref b22), .val (.int (p5 &&& (1 : Int32))), .val (.long v43_0), .second, .val (.long v48_0), .second, .val (.int v53_0), .unset, .unset] [(.int ((if p4 < (if (p5 &&& (1 : Int32)) = (0 : Int32) then p0 else p2) then (0 : Int32) else (if (if (p5 &&& (1 : Int32)) = (0 : Int32) then p1 else p3) < p4 then (0 : Int32) else (1 : Int32))) &&& 1))])) := st63
  obtain ⟨r64, hr64⟩ : ∃ z : Int32, ((if p4 < (if (p5 &&& (1 : Int32)) = (0 : Int32) then p0 else p2) then (0 : Int32) else (if (if (p5 &&& (1 : Int32)) = (0 : Int32) then p1 else p3) < p4 then (0 : Int32) else (1 : Int32))) &&& 1) = z := ⟨_, rfl⟩
  rw [hr64] at K65
  have K66 : Steps p.tables e below _ (T63.setTop (mkF m 120 #[.val (.int p0), .val (.int p1), .val (.int p2), .val (.int p3), .val (.int p4), .val (.int p5), .val (.ref b2), .val (.ref b5), .val (.ref b22), .val (.int (p5 &&& (1 : Int32))), .val (.long v43_0), .second, .val (.long v48_0), .second, .val (.int v53_0), .unset, .unset] [(.int v53_0), (.int r64)])) := K65.trans (by
    show Steps p.tables e below (T63.setTop (mkF m 118 #[.val (.int p0), .val (.int p1), .val (.int p2), .val (.int p3), .val (.int p4), .val (.int p5), .val (.ref b2), .val (.ref b5), .val (.ref b22), .val (.int (p5 &&& (1 : Int32))), .val (.long v43_0), .second, .val (.long v48_0), .second, .val (.int v53_0), .unset, .unset] [(.int r64)])) _
    refine XS.iload X63.here hx rfl (hb hby at_118) rfl ?_
    show Steps p.tables e below (T63.setTop (mkF m 120 #[.val (.int p0), .val (.int p1), .val (.int p2), .val (.int p3), .val (.int p4), .val (.int p5), .val (.ref b2), .val (.ref b5), .val (.ref b22), .val (.int (p5 &&& (1 : Int32))), .val (.long v43_0), .second, .val (.long v48_0), .second, .val (.int v53_0), .unset, .unset] [(.int v53_0), (.int r64)])) _
    exact Steps.refl _)
  obtain ⟨v67_0, hv67_0, S67⟩ : ∃ (v67_0 : Int32), (if r64 = v53_0 then (1 : Int32) else (0 : Int32)) = v67_0 ∧ Steps p.tables e below (T63.setTop (mkF m 120 #[.val (.int p0), .val (.int p1), .val (.int p2), .val (.int p3), .val (.int p4), .val (.int p5), .val (.ref b2), .val (.ref b5), .val (.ref b22), .val (.int (p5 &&& (1 : Int32))), .val (.long v43_0), .second, .val (.long v48_0), .second, .val (.int v53_0), .unset, .unset] [(.int v53_0), (.int r64)])) (T63.setTop (mkF m 128 #[.val (.int p0), .val (.int p1), .val (.int p2), .val (.int p3), .val (.int p4), .val (.int p5), .val (.ref b2), .val (.ref b5), .val (.ref b22), .val (.int (p5 &&& (1 : Int32))), .val (.long v43_0), .second, .val (.long v48_0), .second, .val (.int v53_0), .unset, .unset] [(.int v67_0)])) := by
    have R67 : Steps p.tables e below (T63.setTop (mkF m 120 #[.val (.int p0), .val (.int p1), .val (.int p2), .val (.int p3), .val (.int p4), .val (.int p5), .val (.ref b2), .val (.ref b5), .val (.ref b22), .val (.int (p5 &&& (1 : Int32))), .val (.long v43_0), .second, .val (.long v48_0), .second, .val (.int v53_0), .unset, .unset] [(.int v53_0), (.int r64)])) (T63.setTop (mkF m 120 #[.val (.int p0), .val (.int p1), .val (.int p2), .val (.int p3), .val (.int p4), .val (.int p5), .val (.ref b2), .val (.ref b5), .val (.ref b22), .val (.int (p5 &&& (1 : Int32))), .val (.long v43_0), .second, .val (.long v48_0), .second, .val (.int v53_0), .unset, .unset] [(.int v53_0), (.int r64)])) := Steps.refl _
    by_cases hc120 : r64 = v53_0
    · have K68 : Steps p.tables e below _ (T63.setTop (mkF m 128 #[.val (.int p0), .val (.int p1), .val (.int p2), .val (.int p3), .val (.int p4), .val (.int p5), .val (.ref b2), .val (.ref b5), .val (.ref b22), .val (.int (p5 &&& (1 : Int32))), .val (.long v43_0), .second, .val (.long v48_0), .second, .val (.int v53_0), .unset, .unset] [(.int (1 : Int32))])) := R67.trans (by
        show Steps p.tables e below (T63.setTop (mkF m 120 #[.val (.int p0), .val (.int p1), .val (.int p2), .val (.int p3), .val (.int p4), .val (.int p5), .val (.ref b2), .val (.ref b5), .val (.ref b22), .val (.int (p5 &&& (1 : Int32))), .val (.long v43_0), .second, .val (.long v48_0), .second, .val (.int v53_0), .unset, .unset] [(.int v53_0), (.int r64)])) _
        refine XS.icmpNo X63.here hx rfl (hb hby at_120) rfl (teq hc120).2 ?_
        show Steps p.tables e below (T63.setTop (mkF m 123 #[.val (.int p0), .val (.int p1), .val (.int p2), .val (.int p3), .val (.int p4), .val (.int p5), .val (.ref b2), .val (.ref b5), .val (.ref b22), .val (.int (p5 &&& (1 : Int32))), .val (.long v43_0), .second, .val (.long v48_0), .second, .val (.int v53_0), .unset, .unset] [])) _
        refine XS.iconst X63.here hx rfl (hb hby at_123) ?_
        show Steps p.tables e below (T63.setTop (mkF m 124 #[.val (.int p0), .val (.int p1), .val (.int p2), .val (.int p3), .val (.int p4), .val (.int p5), .val (.ref b2), .val (.ref b5), .val (.ref b22), .val (.int (p5 &&& (1 : Int32))), .val (.long v43_0), .second, .val (.long v48_0), .second, .val (.int v53_0), .unset, .unset] [(.int (1 : Int32))])) _
        refine XS.goto X63.here hx rfl (pc0 := 124) (pc' := 128) rfl (hb hby at_124) (by decide) (by decide) ?_
        show Steps p.tables e below (T63.setTop (mkF m 128 #[.val (.int p0), .val (.int p1), .val (.int p2), .val (.int p3), .val (.int p4), .val (.int p5), .val (.ref b2), .val (.ref b5), .val (.ref b22), .val (.int (p5 &&& (1 : Int32))), .val (.long v43_0), .second, .val (.long v48_0), .second, .val (.int v53_0), .unset, .unset] [(.int (1 : Int32))])) _
        exact Steps.refl _)
      exact ⟨(1 : Int32), (by rw [if_pos hc120]), K68⟩
    · have K69 : Steps p.tables e below _ (T63.setTop (mkF m 128 #[.val (.int p0), .val (.int p1), .val (.int p2), .val (.int p3), .val (.int p4), .val (.int p5), .val (.ref b2), .val (.ref b5), .val (.ref b22), .val (.int (p5 &&& (1 : Int32))), .val (.long v43_0), .second, .val (.long v48_0), .second, .val (.int v53_0), .unset, .unset] [(.int (0 : Int32))])) := R67.trans (by
        show Steps p.tables e below (T63.setTop (mkF m 120 #[.val (.int p0), .val (.int p1), .val (.int p2), .val (.int p3), .val (.int p4), .val (.int p5), .val (.ref b2), .val (.ref b5), .val (.ref b22), .val (.int (p5 &&& (1 : Int32))), .val (.long v43_0), .second, .val (.long v48_0), .second, .val (.int v53_0), .unset, .unset] [(.int v53_0), (.int r64)])) _
        refine XS.icmpYes X63.here hx rfl (pc0 := 120) (pc' := 127) rfl (hb hby at_120) rfl (feq hc120).2 (by decide) (by decide) ?_
        show Steps p.tables e below (T63.setTop (mkF m 127 #[.val (.int p0), .val (.int p1), .val (.int p2), .val (.int p3), .val (.int p4), .val (.int p5), .val (.ref b2), .val (.ref b5), .val (.ref b22), .val (.int (p5 &&& (1 : Int32))), .val (.long v43_0), .second, .val (.long v48_0), .second, .val (.int v53_0), .unset, .unset] [])) _
        refine XS.iconst X63.here hx rfl (hb hby at_127) ?_
        show Steps p.tables e below (T63.setTop (mkF m 128 #[.val (.int p0), .val (.int p1), .val (.int p2), .val (.int p3), .val (.int p4), .val (.int p5), .val (.ref b2), .val (.ref b5), .val (.ref b22), .val (.int (p5 &&& (1 : Int32))), .val (.long v43_0), .second, .val (.long v48_0), .second, .val (.int v53_0), .unset, .unset] [(.int (0 : Int32))])) _
        exact Steps.refl _)
      exact ⟨(0 : Int32), (by rw [if_neg hc120]), K69⟩
  have K70 := K66.trans S67
  have K71 : Steps p.tables e below _ (T63.setTop (mkF m 135 #[.val (.int p0), .val (.int p1), .val (.int p2), .val (.int p3), .val (.int p4), .val (.int p5), .val (.ref b2), .val (.ref b5), .val (.ref b22), .val (.int (p5 &&& (1 : Int32))), .val (.long v43_0), .second, .val (.long v48_0), .second, .val (.int v53_0), .val (.int v67_0), .unset] [(.int (lcmpW v43_0 v48_0))])) := K70.trans (by
    show Steps p.tables e below (T63.setTop (mkF m 128 #[.val (.int p0), .val (.int p1), .val (.int p2), .val (.int p3), .val (.int p4), .val (.int p5), .val (.ref b2), .val (.ref b5), .val (.ref b22), .val (.int (p5 &&& (1 : Int32))), .val (.long v43_0), .second, .val (.long v48_0), .second, .val (.int v53_0), .unset, .unset] [(.int v67_0)])) _
    refine XS.istore X63.here hx rfl (hb hby at_128) rfl (l' := #[.val (.int p0), .val (.int p1), .val (.int p2), .val (.int p3), .val (.int p4), .val (.int p5), .val (.ref b2), .val (.ref b5), .val (.ref b22), .val (.int (p5 &&& (1 : Int32))), .val (.long v43_0), .second, .val (.long v48_0), .second, .val (.int v53_0), .val (.int v67_0), .unset]) rfl ?_
    show Steps p.tables e below (T63.setTop (mkF m 130 #[.val (.int p0), .val (.int p1), .val (.int p2), .val (.int p3), .val (.int p4), .val (.int p5), .val (.ref b2), .val (.ref b5), .val (.ref b22), .val (.int (p5 &&& (1 : Int32))), .val (.long v43_0), .second, .val (.long v48_0), .second, .val (.int v53_0), .val (.int v67_0), .unset] [])) _
    refine XS.lload X63.here hx rfl (hb hby at_130) rfl ?_
    show Steps p.tables e below (T63.setTop (mkF m 132 #[.val (.int p0), .val (.int p1), .val (.int p2), .val (.int p3), .val (.int p4), .val (.int p5), .val (.ref b2), .val (.ref b5), .val (.ref b22), .val (.int (p5 &&& (1 : Int32))), .val (.long v43_0), .second, .val (.long v48_0), .second, .val (.int v53_0), .val (.int v67_0), .unset] [(.long v43_0)])) _
    refine XS.lload X63.here hx rfl (hb hby at_132) rfl ?_
    show Steps p.tables e below (T63.setTop (mkF m 134 #[.val (.int p0), .val (.int p1), .val (.int p2), .val (.int p3), .val (.int p4), .val (.int p5), .val (.ref b2), .val (.ref b5), .val (.ref b22), .val (.int (p5 &&& (1 : Int32))), .val (.long v43_0), .second, .val (.long v48_0), .second, .val (.int v53_0), .val (.int v67_0), .unset] [(.long v48_0), (.long v43_0)])) _
    refine XS.lcmp X63.here hx rfl (hb hby at_134) rfl ?_
    show Steps p.tables e below (T63.setTop (mkF m 135 #[.val (.int p0), .val (.int p1), .val (.int p2), .val (.int p3), .val (.int p4), .val (.int p5), .val (.ref b2), .val (.ref b5), .val (.ref b22), .val (.int (p5 &&& (1 : Int32))), .val (.long v43_0), .second, .val (.long v48_0), .second, .val (.int v53_0), .val (.int v67_0), .unset] [(.int (lcmpW v43_0 v48_0))])) _
    exact Steps.refl _)
  obtain ⟨v72_0, hv72_0, S72⟩ : ∃ (v72_0 : Int32), (if v48_0 < v43_0 then (0 : Int32) else (1 : Int32)) = v72_0 ∧ Steps p.tables e below (T63.setTop (mkF m 135 #[.val (.int p0), .val (.int p1), .val (.int p2), .val (.int p3), .val (.int p4), .val (.int p5), .val (.ref b2), .val (.ref b5), .val (.ref b22), .val (.int (p5 &&& (1 : Int32))), .val (.long v43_0), .second, .val (.long v48_0), .second, .val (.int v53_0), .val (.int v67_0), .unset] [(.int (lcmpW v43_0 v48_0))])) (T63.setTop (mkF m 143 #[.val (.int p0), .val (.int p1), .val (.int p2), .val (.int p3), .val (.int p4), .val (.int p5), .val (.ref b2), .val (.ref b5), .val (.ref b22), .val (.int (p5 &&& (1 : Int32))), .val (.long v43_0), .second, .val (.long v48_0), .second, .val (.int v53_0), .val (.int v67_0), .unset] [(.int v72_0)])) := by
    have R72 : Steps p.tables e below (T63.setTop (mkF m 135 #[.val (.int p0), .val (.int p1), .val (.int p2), .val (.int p3), .val (.int p4), .val (.int p5), .val (.ref b2), .val (.ref b5), .val (.ref b22), .val (.int (p5 &&& (1 : Int32))), .val (.long v43_0), .second, .val (.long v48_0), .second, .val (.int v53_0), .val (.int v67_0), .unset] [(.int (lcmpW v43_0 v48_0))])) (T63.setTop (mkF m 135 #[.val (.int p0), .val (.int p1), .val (.int p2), .val (.int p3), .val (.int p4), .val (.int p5), .val (.ref b2), .val (.ref b5), .val (.ref b22), .val (.int (p5 &&& (1 : Int32))), .val (.long v43_0), .second, .val (.long v48_0), .second, .val (.int v53_0), .val (.int v67_0), .unset] [(.int (lcmpW v43_0 v48_0))])) := Steps.refl _
    by_cases hc135 : v48_0 < v43_0
    · have K73 : Steps p.tables e below _ (T63.setTop (mkF m 143 #[.val (.int p0), .val (.int p1), .val (.int p2), .val (.int p3), .val (.int p4), .val (.int p5), .val (.ref b2), .val (.ref b5), .val (.ref b22), .val (.int (p5 &&& (1 : Int32))), .val (.long v43_0), .second, .val (.long v48_0), .second, .val (.int v53_0), .val (.int v67_0), .unset] [(.int (0 : Int32))])) := R72.trans (by
        show Steps p.tables e below (T63.setTop (mkF m 135 #[.val (.int p0), .val (.int p1), .val (.int p2), .val (.int p3), .val (.int p4), .val (.int p5), .val (.ref b2), .val (.ref b5), .val (.ref b22), .val (.int (p5 &&& (1 : Int32))), .val (.long v43_0), .second, .val (.long v48_0), .second, .val (.int v53_0), .val (.int v67_0), .unset] [(.int (lcmpW v43_0 v48_0))])) _
        refine XS.ifYes X63.here hx rfl (pc0 := 135) (pc' := 142) rfl (hb hby at_135) rfl ((if0 _ _).trans (tlt ((lw_gt v43_0 v48_0).mpr hc135)).2.2.1) (by decide) (by decide) ?_
        show Steps p.tables e below (T63.setTop (mkF m 142 #[.val (.int p0), .val (.int p1), .val (.int p2), .val (.int p3), .val (.int p4), .val (.int p5), .val (.ref b2), .val (.ref b5), .val (.ref b22), .val (.int (p5 &&& (1 : Int32))), .val (.long v43_0), .second, .val (.long v48_0), .second, .val (.int v53_0), .val (.int v67_0), .unset] [])) _
        refine XS.iconst X63.here hx rfl (hb hby at_142) ?_
        show Steps p.tables e below (T63.setTop (mkF m 143 #[.val (.int p0), .val (.int p1), .val (.int p2), .val (.int p3), .val (.int p4), .val (.int p5), .val (.ref b2), .val (.ref b5), .val (.ref b22), .val (.int (p5 &&& (1 : Int32))), .val (.long v43_0), .second, .val (.long v48_0), .second, .val (.int v53_0), .val (.int v67_0), .unset] [(.int (0 : Int32))])) _
        exact Steps.refl _)
      exact ⟨(0 : Int32), (by rw [if_pos hc135]), K73⟩
    · have K74 : Steps p.tables e below _ (T63.setTop (mkF m 143 #[.val (.int p0), .val (.int p1), .val (.int p2), .val (.int p3), .val (.int p4), .val (.int p5), .val (.ref b2), .val (.ref b5), .val (.ref b22), .val (.int (p5 &&& (1 : Int32))), .val (.long v43_0), .second, .val (.long v48_0), .second, .val (.int v53_0), .val (.int v67_0), .unset] [(.int (1 : Int32))])) := R72.trans (by
        show Steps p.tables e below (T63.setTop (mkF m 135 #[.val (.int p0), .val (.int p1), .val (.int p2), .val (.int p3), .val (.int p4), .val (.int p5), .val (.ref b2), .val (.ref b5), .val (.ref b22), .val (.int (p5 &&& (1 : Int32))), .val (.long v43_0), .second, .val (.long v48_0), .second, .val (.int v53_0), .val (.int v67_0), .unset] [(.int (lcmpW v43_0 v48_0))])) _
        refine XS.ifNo X63.here hx rfl (hb hby at_135) rfl ((if0 _ _).trans (flt (fun z => hc135 ((lw_gt v43_0 v48_0).mp z))).2.2.1) ?_
        show Steps p.tables e below (T63.setTop (mkF m 138 #[.val (.int p0), .val (.int p1), .val (.int p2), .val (.int p3), .val (.int p4), .val (.int p5), .val (.ref b2), .val (.ref b5), .val (.ref b22), .val (.int (p5 &&& (1 : Int32))), .val (.long v43_0), .second, .val (.long v48_0), .second, .val (.int v53_0), .val (.int v67_0), .unset] [])) _
        refine XS.iconst X63.here hx rfl (hb hby at_138) ?_
        show Steps p.tables e below (T63.setTop (mkF m 139 #[.val (.int p0), .val (.int p1), .val (.int p2), .val (.int p3), .val (.int p4), .val (.int p5), .val (.ref b2), .val (.ref b5), .val (.ref b22), .val (.int (p5 &&& (1 : Int32))), .val (.long v43_0), .second, .val (.long v48_0), .second, .val (.int v53_0), .val (.int v67_0), .unset] [(.int (1 : Int32))])) _
        refine XS.goto X63.here hx rfl (pc0 := 139) (pc' := 143) rfl (hb hby at_139) (by decide) (by decide) ?_
        show Steps p.tables e below (T63.setTop (mkF m 143 #[.val (.int p0), .val (.int p1), .val (.int p2), .val (.int p3), .val (.int p4), .val (.int p5), .val (.ref b2), .val (.ref b5), .val (.ref b22), .val (.int (p5 &&& (1 : Int32))), .val (.long v43_0), .second, .val (.long v48_0), .second, .val (.int v53_0), .val (.int v67_0), .unset] [(.int (1 : Int32))])) _
        exact Steps.refl _)
      exact ⟨(1 : Int32), (by rw [if_neg hc135]), K74⟩
  have K75 := K71.trans S72
  have K76 : Steps p.tables e below _ (T63.setTop (mkF m 147 #[.val (.int p0), .val (.int p1), .val (.int p2), .val (.int p3), .val (.int p4), .val (.int p5), .val (.ref b2), .val (.ref b5), .val (.ref b22), .val (.int (p5 &&& (1 : Int32))), .val (.long v43_0), .second, .val (.long v48_0), .second, .val (.int v53_0), .val (.int v67_0), .val (.int v72_0)] [(.int v67_0)])) := K75.trans (by
    show Steps p.tables e below (T63.setTop (mkF m 143 #[.val (.int p0), .val (.int p1), .val (.int p2), .val (.int p3), .val (.int p4), .val (.int p5), .val (.ref b2), .val (.ref b5), .val (.ref b22), .val (.int (p5 &&& (1 : Int32))), .val (.long v43_0), .second, .val (.long v48_0), .second, .val (.int v53_0), .val (.int v67_0), .unset] [(.int v72_0)])) _
    refine XS.istore X63.here hx rfl (hb hby at_143) rfl (l' := #[.val (.int p0), .val (.int p1), .val (.int p2), .val (.int p3), .val (.int p4), .val (.int p5), .val (.ref b2), .val (.ref b5), .val (.ref b22), .val (.int (p5 &&& (1 : Int32))), .val (.long v43_0), .second, .val (.long v48_0), .second, .val (.int v53_0), .val (.int v67_0), .val (.int v72_0)]) rfl ?_
    show Steps p.tables e below (T63.setTop (mkF m 145 #[.val (.int p0), .val (.int p1), .val (.int p2), .val (.int p3), .val (.int p4), .val (.int p5), .val (.ref b2), .val (.ref b5), .val (.ref b22), .val (.int (p5 &&& (1 : Int32))), .val (.long v43_0), .second, .val (.long v48_0), .second, .val (.int v53_0), .val (.int v67_0), .val (.int v72_0)] [])) _
    refine XS.iload X63.here hx rfl (hb hby at_145) rfl ?_
    show Steps p.tables e below (T63.setTop (mkF m 147 #[.val (.int p0), .val (.int p1), .val (.int p2), .val (.int p3), .val (.int p4), .val (.int p5), .val (.ref b2), .val (.ref b5), .val (.ref b22), .val (.int (p5 &&& (1 : Int32))), .val (.long v43_0), .second, .val (.long v48_0), .second, .val (.int v53_0), .val (.int v67_0), .val (.int v72_0)] [(.int v67_0)])) _
    exact Steps.refl _)
  obtain ⟨T77, L77, v77_0, X77, e77, N77, hv77_0, S77⟩ : ∃ (T77 : State) (L77 : List Loc) (v77_0 : Int32), Stand p l e room_1 (s.setVm T27.vm) m #[(.int p0), (.int p1), (.int p2), (.int p3), (.int p4), (.int p5)] below meth c T77 L77 6 19 ∧ T77.heap = T40.heap ∧ Fr n0 L77 ∧ (if v67_0 = (0 : Int32) then (0 : Int32) else (if ((if (v43_0.toInt32) < (if (p5 &&& (1 : Int32)) = (0 : Int32) then p0 else p2) then (0 : Int32) else (if (if (p5 &&& (1 : Int32)) = (0 : Int32) then p1 else p3) < (v43_0.toInt32) then (0 : Int32) else (1 : Int32))) &&& 1) = v72_0 then (1 : Int32) else (0 : Int32))) = v77_0 ∧ Steps p.tables e below (T63.setTop (mkF m 147 #[.val (.int p0), .val (.int p1), .val (.int p2), .val (.int p3), .val (.int p4), .val (.int p5), .val (.ref b2), .val (.ref b5), .val (.ref b22), .val (.int (p5 &&& (1 : Int32))), .val (.long v43_0), .second, .val (.long v48_0), .second, .val (.int v53_0), .val (.int v67_0), .val (.int v72_0)] [(.int v67_0)])) (T77.setTop (mkF m 170 #[.val (.int p0), .val (.int p1), .val (.int p2), .val (.int p3), .val (.int p4), .val (.int p5), .val (.ref b2), .val (.ref b5), .val (.ref b22), .val (.int (p5 &&& (1 : Int32))), .val (.long v43_0), .second, .val (.long v48_0), .second, .val (.int v53_0), .val (.int v67_0), .val (.int v72_0)] [(.int v77_0)])) := by
    have R77 : Steps p.tables e below (T63.setTop (mkF m 147 #[.val (.int p0), .val (.int p1), .val (.int p2), .val (.int p3), .val (.int p4), .val (.int p5), .val (.ref b2), .val (.ref b5), .val (.ref b22), .val (.int (p5 &&& (1 : Int32))), .val (.long v43_0), .second, .val (.long v48_0), .second, .val (.int v53_0), .val (.int v67_0), .val (.int v72_0)] [(.int v67_0)])) (T63.setTop (mkF m 147 #[.val (.int p0), .val (.int p1), .val (.int p2), .val (.int p3), .val (.int p4), .val (.int p5), .val (.ref b2), .val (.ref b5), .val (.ref b22), .val (.int (p5 &&& (1 : Int32))), .val (.long v43_0), .second, .val (.long v48_0), .second, .val (.int v53_0), .val (.int v67_0), .val (.int v72_0)] [(.int v67_0)])) := Steps.refl _
    by_cases hc147 : v67_0 = (0 : Int32)
    · have K78 : Steps p.tables e below _ (T63.setTop (mkF m 170 #[.val (.int p0), .val (.int p1), .val (.int p2), .val (.int p3), .val (.int p4), .val (.int p5), .val (.ref b2), .val (.ref b5), .val (.ref b22), .val (.int (p5 &&& (1 : Int32))), .val (.long v43_0), .second, .val (.long v48_0), .second, .val (.int v53_0), .val (.int v67_0), .val (.int v72_0)] [(.int (0 : Int32))])) := R77.trans (by
        show Steps p.tables e below (T63.setTop (mkF m 147 #[.val (.int p0), .val (.int p1), .val (.int p2), .val (.int p3), .val (.int p4), .val (.int p5), .val (.ref b2), .val (.ref b5), .val (.ref b22), .val (.int (p5 &&& (1 : Int32))), .val (.long v43_0), .second, .val (.long v48_0), .second, .val (.int v53_0), .val (.int v67_0), .val (.int v72_0)] [(.int v67_0)])) _
        refine XS.ifYes X63.here hx rfl (pc0 := 147) (pc' := 169) rfl (hb hby at_147) rfl ((if0 _ _).trans (teq hc147).1) (by decide) (by decide) ?_
        show Steps p.tables e below (T63.setTop (mkF m 169 #[.val (.int p0), .val (.int p1), .val (.int p2), .val (.int p3), .val (.int p4), .val (.int p5), .val (.ref b2), .val (.ref b5), .val (.ref b22), .val (.int (p5 &&& (1 : Int32))), .val (.long v43_0), .second, .val (.long v48_0), .second, .val (.int v53_0), .val (.int v67_0), .val (.int v72_0)] [])) _
        refine XS.iconst X63.here hx rfl (hb hby at_169) ?_
        show Steps p.tables e below (T63.setTop (mkF m 170 #[.val (.int p0), .val (.int p1), .val (.int p2), .val (.int p3), .val (.int p4), .val (.int p5), .val (.ref b2), .val (.ref b5), .val (.ref b22), .val (.int (p5 &&& (1 : Int32))), .val (.long v43_0), .second, .val (.long v48_0), .second, .val (.int v53_0), .val (.int v67_0), .val (.int v72_0)] [(.int (0 : Int32))])) _
        exact Steps.refl _)
      exact ⟨T63, _, (0 : Int32), X63, eh63, N63', (by rw [if_pos hc147]), K78⟩
    · have K79 : Steps p.tables e below _ (T63.setTop (mkF m 157 #[.val (.int p0), .val (.int p1), .val (.int p2), .val (.int p3), .val (.int p4), .val (.int p5), .val (.ref b2), .val (.ref b5), .val (.ref b22), .val (.int (p5 &&& (1 : Int32))), .val (.long v43_0), .second, .val (.long v48_0), .second, .val (.int v53_0), .val (.int v67_0), .val (.int v72_0)] [(.int (v43_0.toInt32)), (.int (p5 &&& (1 : Int32))), (.ref b22)])) := R77.trans (by
        show Steps p.tables e below (T63.setTop (mkF m 147 #[.val (.int p0), .val (.int p1), .val (.int p2), .val (.int p3), .val (.int p4), .val (.int p5), .val (.ref b2), .val (.ref b5), .val (.ref b22), .val (.int (p5 &&& (1 : Int32))), .val (.long v43_0), .second, .val (.long v48_0), .second, .val (.int v53_0), .val (.int v67_0), .val (.int v72_0)] [(.int v67_0)])) _
        refine XS.ifNo X63.here hx rfl (hb hby at_147) rfl ((if0 _ _).trans (feq hc147).1) ?_
        show Steps p.tables e below (T63.setTop (mkF m 150 #[.val (.int p0), .val (.int p1), .val (.int p2), .val (.int p3), .val (.int p4), .val (.int p5), .val (.ref b2), .val (.ref b5), .val (.ref b22), .val (.int (p5 &&& (1 : Int32))), .val (.long v43_0), .second, .val (.long v48_0), .second, .val (.int v53_0), .val (.int v67_0), .val (.int v72_0)] [])) _
        refine XS.aload X63.here hx rfl (hb hby at_150) rfl rfl ?_
        show Steps p.tables e below (T63.setTop (mkF m 152 #[.val (.int p0), .val (.int p1), .val (.int p2), .val (.int p3), .val (.int p4), .val (.int p5), .val (.ref b2), .val (.ref b5), .val (.ref b22), .val (.int (p5 &&& (1 : Int32))), .val (.long v43_0), .second, .val (.long v48_0), .second, .val (.int v53_0), .val (.int v67_0), .val (.int v72_0)] [(.ref b22)])) _
        refine XS.iload X63.here hx rfl (hb hby at_152) rfl ?_
        show Steps p.tables e below (T63.setTop (mkF m 154 #[.val (.int p0), .val (.int p1), .val (.int p2), .val (.int p3), .val (.int p4), .val (.int p5), .val (.ref b2), .val (.ref b5), .val (.ref b22), .val (.int (p5 &&& (1 : Int32))), .val (.long v43_0), .second, .val (.long v48_0), .second, .val (.int v53_0), .val (.int v67_0), .val (.int v72_0)] [(.int (p5 &&& (1 : Int32))), (.ref b22)])) _
        refine XS.lload X63.here hx rfl (hb hby at_154) rfl ?_
        show Steps p.tables e below (T63.setTop (mkF m 156 #[.val (.int p0), .val (.int p1), .val (.int p2), .val (.int p3), .val (.int p4), .val (.int p5), .val (.ref b2), .val (.ref b5), .val (.ref b22), .val (.int (p5 &&& (1 : Int32))), .val (.long v43_0), .second, .val (.long v48_0), .second, .val (.int v53_0), .val (.int v67_0), .val (.int v72_0)] [(.long v43_0), (.int (p5 &&& (1 : Int32))), (.ref b22)])) _
        refine XS.l2i X63.here hx rfl (hb hby at_156) rfl ?_
        show Steps p.tables e below (T63.setTop (mkF m 157 #[.val (.int p0), .val (.int p1), .val (.int p2), .val (.int p3), .val (.int p4), .val (.int p5), .val (.ref b2), .val (.ref b5), .val (.ref b22), .val (.int (p5 &&& (1 : Int32))), .val (.long v43_0), .second, .val (.long v48_0), .second, .val (.int v53_0), .val (.int v67_0), .val (.int v72_0)] [(.int (v43_0.toInt32)), (.int (p5 &&& (1 : Int32))), (.ref b22)])) _
        exact Steps.refl _)
      obtain ⟨cq80, kq80, q80a, q80b, q80c⟩ := isOf hZ eh63 Q40_0
      obtain ⟨_, _, ⟨T80, L80, k80, n80⟩, -, X80, ⟨Lc80, hQ80, l80, y80, z80⟩, st80⟩ := X63.virtualBack hx (y := (⟨"com/example/futures_from_states/futuresfromstates/model/ArrayVariable", "inBounds", "(II)Z"⟩ : MethodName)) (z := (⟨"com/example/futures_from_states/futuresfromstates/model/ArrayVariable", "inBounds", "(II)Z"⟩ : MethodName)) hown (mvT hZ (hw _ (List.mem_of_getElem? (i := 28) rfl))) (mvT hZ (hw _ (List.mem_of_getElem? (i := 29) rfl))) (notFace_of_selects (args := #[]) (mvT hZ (hw _ (List.mem_of_getElem? (i := 31) rfl)))) (mvT hZ (hw _ (List.mem_of_getElem? (i := 31) rfl))) (mvT hZ (hw _ (List.mem_of_getElem? (i := 30) rfl))) (by decide) (backOf (W := 0) (rm3 l Z a0 hw [] b22 (p5 &&& (1 : Int32)) (v43_0.toInt32) b2 b5 k2 k5 ([(.int p0), (.int p2)]) ([(.int p1), (.int p3)]) (if (p5 &&& (1 : Int32)) = (0 : Int32) then p0 else p2) (if (p5 &&& (1 : Int32)) = (0 : Int32) then p1 else p3) T40.heap n0 Z_60 Q40_2 Q40_3 V_61 V_62 (own_inb p5) (own_sel _ _ _) (own_sel _ _ _)) hZ (hw _ (List.mem_of_getElem? (i := 32) rfl)) (hw _ (List.mem_of_getElem? (i := 3) rfl)) (by decide) (by decide)) q80a q80c (g := (mkF m 157 #[.val (.int p0), .val (.int p1), .val (.int p2), .val (.int p3), .val (.int p4), .val (.int p5), .val (.ref b2), .val (.ref b5), .val (.ref b22), .val (.int (p5 &&& (1 : Int32))), .val (.long v43_0), .second, .val (.long v48_0), .second, .val (.int v53_0), .val (.int v67_0), .val (.int v72_0)] [(.int (v43_0.toInt32)), (.int (p5 &&& (1 : Int32))), (.ref b22)])) rfl (by rw [hml]; rfl) K79 (argsL := [(.int (p5 &&& (1 : Int32))), (.int (v43_0.toInt32))]) (rest := []) (lenOf pd_1 rfl) rfl (by show 2 * 0 + _ ≤ _; exact Nat.le_of_eq rfl) (hb hby at_157) (fun _ _ => ⟨rfl, eh63, (by decide : 6 + 0 ≤ _), (by decide : 19 + 0 ≤ _)⟩)
      dsimp only [Pt.U, Pt.locs, Pt.cells, Pt.slots] at X80 l80 y80 z80 st80 hQ80
      subst l80 y80 z80
      obtain ⟨rfl, N80, eh80⟩ := hQ80
      have N80' := Fr.app N63' N80
      have K82 : Steps p.tables e below _ (T80.setTop (mkF m 160 #[.val (.int p0), .val (.int p1), .val (.int p2), .val (.int p3), .val (.int p4), .val (.int p5), .val (.ref b2), .val (.ref b5), .val (.ref b22), .val (.int (p5 &&& (1 : Int32))), .val (.long v43_0), .second, .val (.long v48_0), .second, .val (.int v53_0), .val (.int v67_0), .val (.int v72_0)] [(.int ((if (v43_0.toInt32) < (if (p5 &&& (1 : Int32)) = (0 : Int32) then p0 else p2) then (0 : Int32) else (if (if (p5 &&& (1 : Int32)) = (0 : Int32) then p1 else p3) < (v43_0.toInt32) then (0 : Int32) else (1 : Int32))) &&& 1))])) := st80
      obtain ⟨r81, hr81⟩ : ∃ z : Int32, ((if (v43_0.toInt32) < (if (p5 &&& (1 : Int32)) = (0 : Int32) then p0 else p2) then (0 : Int32) else (if (if (p5 &&& (1 : Int32)) = (0 : Int32) then p1 else p3) < (v43_0.toInt32) then (0 : Int32) else (1 : Int32))) &&& 1) = z := ⟨_, rfl⟩
      rw [hr81] at K82
      have K83 : Steps p.tables e below _ (T80.setTop (mkF m 162 #[.val (.int p0), .val (.int p1), .val (.int p2), .val (.int p3), .val (.int p4), .val (.int p5), .val (.ref b2), .val (.ref b5), .val (.ref b22), .val (.int (p5 &&& (1 : Int32))), .val (.long v43_0), .second, .val (.long v48_0), .second, .val (.int v53_0), .val (.int v67_0), .val (.int v72_0)] [(.int v72_0), (.int r81)])) := K82.trans (by
        show Steps p.tables e below (T80.setTop (mkF m 160 #[.val (.int p0), .val (.int p1), .val (.int p2), .val (.int p3), .val (.int p4), .val (.int p5), .val (.ref b2), .val (.ref b5), .val (.ref b22), .val (.int (p5 &&& (1 : Int32))), .val (.long v43_0), .second, .val (.long v48_0), .second, .val (.int v53_0), .val (.int v67_0), .val (.int v72_0)] [(.int r81)])) _
        refine XS.iload X80.here hx rfl (hb hby at_160) rfl ?_
        show Steps p.tables e below (T80.setTop (mkF m 162 #[.val (.int p0), .val (.int p1), .val (.int p2), .val (.int p3), .val (.int p4), .val (.int p5), .val (.ref b2), .val (.ref b5), .val (.ref b22), .val (.int (p5 &&& (1 : Int32))), .val (.long v43_0), .second, .val (.long v48_0), .second, .val (.int v53_0), .val (.int v67_0), .val (.int v72_0)] [(.int v72_0), (.int r81)])) _
        exact Steps.refl _)
      by_cases hc162 : r81 = v72_0
      · have K84 : Steps p.tables e below _ (T80.setTop (mkF m 170 #[.val (.int p0), .val (.int p1), .val (.int p2), .val (.int p3), .val (.int p4), .val (.int p5), .val (.ref b2), .val (.ref b5), .val (.ref b22), .val (.int (p5 &&& (1 : Int32))), .val (.long v43_0), .second, .val (.long v48_0), .second, .val (.int v53_0), .val (.int v67_0), .val (.int v72_0)] [(.int (1 : Int32))])) := K83.trans (by
          show Steps p.tables e below (T80.setTop (mkF m 162 #[.val (.int p0), .val (.int p1), .val (.int p2), .val (.int p3), .val (.int p4), .val (.int p5), .val (.ref b2), .val (.ref b5), .val (.ref b22), .val (.int (p5 &&& (1 : Int32))), .val (.long v43_0), .second, .val (.long v48_0), .second, .val (.int v53_0), .val (.int v67_0), .val (.int v72_0)] [(.int v72_0), (.int r81)])) _
          refine XS.icmpNo X80.here hx rfl (hb hby at_162) rfl (teq hc162).2 ?_
          show Steps p.tables e below (T80.setTop (mkF m 165 #[.val (.int p0), .val (.int p1), .val (.int p2), .val (.int p3), .val (.int p4), .val (.int p5), .val (.ref b2), .val (.ref b5), .val (.ref b22), .val (.int (p5 &&& (1 : Int32))), .val (.long v43_0), .second, .val (.long v48_0), .second, .val (.int v53_0), .val (.int v67_0), .val (.int v72_0)] [])) _
          refine XS.iconst X80.here hx rfl (hb hby at_165) ?_
          show Steps p.tables e below (T80.setTop (mkF m 166 #[.val (.int p0), .val (.int p1), .val (.int p2), .val (.int p3), .val (.int p4), .val (.int p5), .val (.ref b2), .val (.ref b5), .val (.ref b22), .val (.int (p5 &&& (1 : Int32))), .val (.long v43_0), .second, .val (.long v48_0), .second, .val (.int v53_0), .val (.int v67_0), .val (.int v72_0)] [(.int (1 : Int32))])) _
          refine XS.goto X80.here hx rfl (pc0 := 166) (pc' := 170) rfl (hb hby at_166) (by decide) (by decide) ?_
          show Steps p.tables e below (T80.setTop (mkF m 170 #[.val (.int p0), .val (.int p1), .val (.int p2), .val (.int p3), .val (.int p4), .val (.int p5), .val (.ref b2), .val (.ref b5), .val (.ref b22), .val (.int (p5 &&& (1 : Int32))), .val (.long v43_0), .second, .val (.long v48_0), .second, .val (.int v53_0), .val (.int v67_0), .val (.int v72_0)] [(.int (1 : Int32))])) _
          exact Steps.refl _)
        subst hr81
        exact ⟨T80, _, (1 : Int32), X80, eh80, N80', (by rw [if_neg hc147, if_pos hc162]), K84⟩
      · have K85 : Steps p.tables e below _ (T80.setTop (mkF m 170 #[.val (.int p0), .val (.int p1), .val (.int p2), .val (.int p3), .val (.int p4), .val (.int p5), .val (.ref b2), .val (.ref b5), .val (.ref b22), .val (.int (p5 &&& (1 : Int32))), .val (.long v43_0), .second, .val (.long v48_0), .second, .val (.int v53_0), .val (.int v67_0), .val (.int v72_0)] [(.int (0 : Int32))])) := K83.trans (by
          show Steps p.tables e below (T80.setTop (mkF m 162 #[.val (.int p0), .val (.int p1), .val (.int p2), .val (.int p3), .val (.int p4), .val (.int p5), .val (.ref b2), .val (.ref b5), .val (.ref b22), .val (.int (p5 &&& (1 : Int32))), .val (.long v43_0), .second, .val (.long v48_0), .second, .val (.int v53_0), .val (.int v67_0), .val (.int v72_0)] [(.int v72_0), (.int r81)])) _
          refine XS.icmpYes X80.here hx rfl (pc0 := 162) (pc' := 169) rfl (hb hby at_162) rfl (feq hc162).2 (by decide) (by decide) ?_
          show Steps p.tables e below (T80.setTop (mkF m 169 #[.val (.int p0), .val (.int p1), .val (.int p2), .val (.int p3), .val (.int p4), .val (.int p5), .val (.ref b2), .val (.ref b5), .val (.ref b22), .val (.int (p5 &&& (1 : Int32))), .val (.long v43_0), .second, .val (.long v48_0), .second, .val (.int v53_0), .val (.int v67_0), .val (.int v72_0)] [])) _
          refine XS.iconst X80.here hx rfl (hb hby at_169) ?_
          show Steps p.tables e below (T80.setTop (mkF m 170 #[.val (.int p0), .val (.int p1), .val (.int p2), .val (.int p3), .val (.int p4), .val (.int p5), .val (.ref b2), .val (.ref b5), .val (.ref b22), .val (.int (p5 &&& (1 : Int32))), .val (.long v43_0), .second, .val (.long v48_0), .second, .val (.int v53_0), .val (.int v67_0), .val (.int v72_0)] [(.int (0 : Int32))])) _
          exact Steps.refl _)
        subst hr81
        exact ⟨T80, _, (0 : Int32), X80, eh80, N80', (by rw [if_neg hc147, if_neg hc162]), K85⟩
  have K86 := K76.trans S77
  have K87 : Steps p.tables e below _ (T77.setTop (mkF m 174 #[.val (.int p0), .val (.int p1), .val (.int p2), .val (.int p3), .val (.int p4), .val (.int p5), .val (.ref b2), .val (.ref b5), .val (.ref b22), .val (.int (p5 &&& (1 : Int32))), .val (.long v43_0), .second, .val (.long v48_0), .second, .val (.int v53_0), .val (.int v77_0), .val (.int v72_0)] [(.int v77_0)])) := K86.trans (by
    show Steps p.tables e below (T77.setTop (mkF m 170 #[.val (.int p0), .val (.int p1), .val (.int p2), .val (.int p3), .val (.int p4), .val (.int p5), .val (.ref b2), .val (.ref b5), .val (.ref b22), .val (.int (p5 &&& (1 : Int32))), .val (.long v43_0), .second, .val (.long v48_0), .second, .val (.int v53_0), .val (.int v67_0), .val (.int v72_0)] [(.int v77_0)])) _
    refine XS.istore X77.here hx rfl (hb hby at_170) rfl (l' := #[.val (.int p0), .val (.int p1), .val (.int p2), .val (.int p3), .val (.int p4), .val (.int p5), .val (.ref b2), .val (.ref b5), .val (.ref b22), .val (.int (p5 &&& (1 : Int32))), .val (.long v43_0), .second, .val (.long v48_0), .second, .val (.int v53_0), .val (.int v77_0), .val (.int v72_0)]) rfl ?_
    show Steps p.tables e below (T77.setTop (mkF m 172 #[.val (.int p0), .val (.int p1), .val (.int p2), .val (.int p3), .val (.int p4), .val (.int p5), .val (.ref b2), .val (.ref b5), .val (.ref b22), .val (.int (p5 &&& (1 : Int32))), .val (.long v43_0), .second, .val (.long v48_0), .second, .val (.int v53_0), .val (.int v77_0), .val (.int v72_0)] [])) _
    refine XS.iload X77.here hx rfl (hb hby at_172) rfl ?_
    show Steps p.tables e below (T77.setTop (mkF m 174 #[.val (.int p0), .val (.int p1), .val (.int p2), .val (.int p3), .val (.int p4), .val (.int p5), .val (.ref b2), .val (.ref b5), .val (.ref b22), .val (.int (p5 &&& (1 : Int32))), .val (.long v43_0), .second, .val (.long v48_0), .second, .val (.int v53_0), .val (.int v77_0), .val (.int v72_0)] [(.int v77_0)])) _
    exact Steps.refl _)
  obtain ⟨T88, L88, v88_0, X88, e88, N88, hv88_0, S88⟩ : ∃ (T88 : State) (L88 : List Loc) (v88_0 : Int32), Stand p l e room_1 (s.setVm T27.vm) m #[(.int p0), (.int p1), (.int p2), (.int p3), (.int p4), (.int p5)] below meth c T88 L88 6 19 ∧ T88.heap = T40.heap ∧ Fr n0 L88 ∧ (if v77_0 = (0 : Int32) then (0 : Int32) else (if ((if (v48_0.toInt32) < (if (p5 &&& (1 : Int32)) = (0 : Int32) then p0 else p2) then (0 : Int32) else (if (if (p5 &&& (1 : Int32)) = (0 : Int32) then p1 else p3) < (v48_0.toInt32) then (0 : Int32) else (1 : Int32))) &&& 1) = v72_0 then (1 : Int32) else (0 : Int32))) = v88_0 ∧ Steps p.tables e below (T77.setTop (mkF m 174 #[.val (.int p0), .val (.int p1), .val (.int p2), .val (.int p3), .val (.int p4), .val (.int p5), .val (.ref b2), .val (.ref b5), .val (.ref b22), .val (.int (p5 &&& (1 : Int32))), .val (.long v43_0), .second, .val (.long v48_0), .second, .val (.int v53_0), .val (.int v77_0), .val (.int v72_0)] [(.int v77_0)])) (T88.setTop (mkF m 197 #[.val (.int p0), .val (.int p1), .val (.int p2), .val (.int p3), .val (.int p4), .val (.int p5), .val (.ref b2), .val (.ref b5), .val (.ref b22), .val (.int (p5 &&& (1 : Int32))), .val (.long v43_0), .second, .val (.long v48_0), .second, .val (.int v53_0), .val (.int v77_0), .val (.int v72_0)] [(.int v88_0)])) := by
    have R88 : Steps p.tables e below (T77.setTop (mkF m 174 #[.val (.int p0), .val (.int p1), .val (.int p2), .val (.int p3), .val (.int p4), .val (.int p5), .val (.ref b2), .val (.ref b5), .val (.ref b22), .val (.int (p5 &&& (1 : Int32))), .val (.long v43_0), .second, .val (.long v48_0), .second, .val (.int v53_0), .val (.int v77_0), .val (.int v72_0)] [(.int v77_0)])) (T77.setTop (mkF m 174 #[.val (.int p0), .val (.int p1), .val (.int p2), .val (.int p3), .val (.int p4), .val (.int p5), .val (.ref b2), .val (.ref b5), .val (.ref b22), .val (.int (p5 &&& (1 : Int32))), .val (.long v43_0), .second, .val (.long v48_0), .second, .val (.int v53_0), .val (.int v77_0), .val (.int v72_0)] [(.int v77_0)])) := Steps.refl _
    by_cases hc174 : v77_0 = (0 : Int32)
    · have K89 : Steps p.tables e below _ (T77.setTop (mkF m 197 #[.val (.int p0), .val (.int p1), .val (.int p2), .val (.int p3), .val (.int p4), .val (.int p5), .val (.ref b2), .val (.ref b5), .val (.ref b22), .val (.int (p5 &&& (1 : Int32))), .val (.long v43_0), .second, .val (.long v48_0), .second, .val (.int v53_0), .val (.int v77_0), .val (.int v72_0)] [(.int (0 : Int32))])) := R88.trans (by
        show Steps p.tables e below (T77.setTop (mkF m 174 #[.val (.int p0), .val (.int p1), .val (.int p2), .val (.int p3), .val (.int p4), .val (.int p5), .val (.ref b2), .val (.ref b5), .val (.ref b22), .val (.int (p5 &&& (1 : Int32))), .val (.long v43_0), .second, .val (.long v48_0), .second, .val (.int v53_0), .val (.int v77_0), .val (.int v72_0)] [(.int v77_0)])) _
        refine XS.ifYes X77.here hx rfl (pc0 := 174) (pc' := 196) rfl (hb hby at_174) rfl ((if0 _ _).trans (teq hc174).1) (by decide) (by decide) ?_
        show Steps p.tables e below (T77.setTop (mkF m 196 #[.val (.int p0), .val (.int p1), .val (.int p2), .val (.int p3), .val (.int p4), .val (.int p5), .val (.ref b2), .val (.ref b5), .val (.ref b22), .val (.int (p5 &&& (1 : Int32))), .val (.long v43_0), .second, .val (.long v48_0), .second, .val (.int v53_0), .val (.int v77_0), .val (.int v72_0)] [])) _
        refine XS.iconst X77.here hx rfl (hb hby at_196) ?_
        show Steps p.tables e below (T77.setTop (mkF m 197 #[.val (.int p0), .val (.int p1), .val (.int p2), .val (.int p3), .val (.int p4), .val (.int p5), .val (.ref b2), .val (.ref b5), .val (.ref b22), .val (.int (p5 &&& (1 : Int32))), .val (.long v43_0), .second, .val (.long v48_0), .second, .val (.int v53_0), .val (.int v77_0), .val (.int v72_0)] [(.int (0 : Int32))])) _
        exact Steps.refl _)
      exact ⟨T77, _, (0 : Int32), X77, e77, N77, (by rw [if_pos hc174]), K89⟩
    · have K90 : Steps p.tables e below _ (T77.setTop (mkF m 184 #[.val (.int p0), .val (.int p1), .val (.int p2), .val (.int p3), .val (.int p4), .val (.int p5), .val (.ref b2), .val (.ref b5), .val (.ref b22), .val (.int (p5 &&& (1 : Int32))), .val (.long v43_0), .second, .val (.long v48_0), .second, .val (.int v53_0), .val (.int v77_0), .val (.int v72_0)] [(.int (v48_0.toInt32)), (.int (p5 &&& (1 : Int32))), (.ref b22)])) := R88.trans (by
        show Steps p.tables e below (T77.setTop (mkF m 174 #[.val (.int p0), .val (.int p1), .val (.int p2), .val (.int p3), .val (.int p4), .val (.int p5), .val (.ref b2), .val (.ref b5), .val (.ref b22), .val (.int (p5 &&& (1 : Int32))), .val (.long v43_0), .second, .val (.long v48_0), .second, .val (.int v53_0), .val (.int v77_0), .val (.int v72_0)] [(.int v77_0)])) _
        refine XS.ifNo X77.here hx rfl (hb hby at_174) rfl ((if0 _ _).trans (feq hc174).1) ?_
        show Steps p.tables e below (T77.setTop (mkF m 177 #[.val (.int p0), .val (.int p1), .val (.int p2), .val (.int p3), .val (.int p4), .val (.int p5), .val (.ref b2), .val (.ref b5), .val (.ref b22), .val (.int (p5 &&& (1 : Int32))), .val (.long v43_0), .second, .val (.long v48_0), .second, .val (.int v53_0), .val (.int v77_0), .val (.int v72_0)] [])) _
        refine XS.aload X77.here hx rfl (hb hby at_177) rfl rfl ?_
        show Steps p.tables e below (T77.setTop (mkF m 179 #[.val (.int p0), .val (.int p1), .val (.int p2), .val (.int p3), .val (.int p4), .val (.int p5), .val (.ref b2), .val (.ref b5), .val (.ref b22), .val (.int (p5 &&& (1 : Int32))), .val (.long v43_0), .second, .val (.long v48_0), .second, .val (.int v53_0), .val (.int v77_0), .val (.int v72_0)] [(.ref b22)])) _
        refine XS.iload X77.here hx rfl (hb hby at_179) rfl ?_
        show Steps p.tables e below (T77.setTop (mkF m 181 #[.val (.int p0), .val (.int p1), .val (.int p2), .val (.int p3), .val (.int p4), .val (.int p5), .val (.ref b2), .val (.ref b5), .val (.ref b22), .val (.int (p5 &&& (1 : Int32))), .val (.long v43_0), .second, .val (.long v48_0), .second, .val (.int v53_0), .val (.int v77_0), .val (.int v72_0)] [(.int (p5 &&& (1 : Int32))), (.ref b22)])) _
        refine XS.lload X77.here hx rfl (hb hby at_181) rfl ?_
        show Steps p.tables e below (T77.setTop (mkF m 183 #[.val (.int p0), .val (.int p1), .val (.int p2), .val (.int p3), .val (.int p4), .val (.int p5), .val (.ref b2), .val (.ref b5), .val (.ref b22), .val (.int (p5 &&& (1 : Int32))), .val (.long v43_0), .second, .val (.long v48_0), .second, .val (.int v53_0), .val (.int v77_0), .val (.int v72_0)] [(.long v48_0), (.int (p5 &&& (1 : Int32))), (.ref b22)])) _
        refine XS.l2i X77.here hx rfl (hb hby at_183) rfl ?_
        show Steps p.tables e below (T77.setTop (mkF m 184 #[.val (.int p0), .val (.int p1), .val (.int p2), .val (.int p3), .val (.int p4), .val (.int p5), .val (.ref b2), .val (.ref b5), .val (.ref b22), .val (.int (p5 &&& (1 : Int32))), .val (.long v43_0), .second, .val (.long v48_0), .second, .val (.int v53_0), .val (.int v77_0), .val (.int v72_0)] [(.int (v48_0.toInt32)), (.int (p5 &&& (1 : Int32))), (.ref b22)])) _
        exact Steps.refl _)
      obtain ⟨cq91, kq91, q91a, q91b, q91c⟩ := isOf hZ e77 Q40_0
      obtain ⟨_, _, ⟨T91, L91, k91, n91⟩, -, X91, ⟨Lc91, hQ91, l91, y91, z91⟩, st91⟩ := X77.virtualBack hx (y := (⟨"com/example/futures_from_states/futuresfromstates/model/ArrayVariable", "inBounds", "(II)Z"⟩ : MethodName)) (z := (⟨"com/example/futures_from_states/futuresfromstates/model/ArrayVariable", "inBounds", "(II)Z"⟩ : MethodName)) hown (mvT hZ (hw _ (List.mem_of_getElem? (i := 28) rfl))) (mvT hZ (hw _ (List.mem_of_getElem? (i := 29) rfl))) (notFace_of_selects (args := #[]) (mvT hZ (hw _ (List.mem_of_getElem? (i := 31) rfl)))) (mvT hZ (hw _ (List.mem_of_getElem? (i := 31) rfl))) (mvT hZ (hw _ (List.mem_of_getElem? (i := 30) rfl))) (by decide) (backOf (W := 0) (rm3 l Z a0 hw [] b22 (p5 &&& (1 : Int32)) (v48_0.toInt32) b2 b5 k2 k5 ([(.int p0), (.int p2)]) ([(.int p1), (.int p3)]) (if (p5 &&& (1 : Int32)) = (0 : Int32) then p0 else p2) (if (p5 &&& (1 : Int32)) = (0 : Int32) then p1 else p3) T40.heap n0 Z_60 Q40_2 Q40_3 V_61 V_62 (own_inb p5) (own_sel _ _ _) (own_sel _ _ _)) hZ (hw _ (List.mem_of_getElem? (i := 32) rfl)) (hw _ (List.mem_of_getElem? (i := 3) rfl)) (by decide) (by decide)) q91a q91c (g := (mkF m 184 #[.val (.int p0), .val (.int p1), .val (.int p2), .val (.int p3), .val (.int p4), .val (.int p5), .val (.ref b2), .val (.ref b5), .val (.ref b22), .val (.int (p5 &&& (1 : Int32))), .val (.long v43_0), .second, .val (.long v48_0), .second, .val (.int v53_0), .val (.int v77_0), .val (.int v72_0)] [(.int (v48_0.toInt32)), (.int (p5 &&& (1 : Int32))), (.ref b22)])) rfl (by rw [hml]; rfl) K90 (argsL := [(.int (p5 &&& (1 : Int32))), (.int (v48_0.toInt32))]) (rest := []) (lenOf pd_1 rfl) rfl (by show 2 * 0 + _ ≤ _; exact Nat.le_of_eq rfl) (hb hby at_184) (fun _ _ => ⟨rfl, e77, (by decide : 6 + 0 ≤ _), (by decide : 19 + 0 ≤ _)⟩)
      dsimp only [Pt.U, Pt.locs, Pt.cells, Pt.slots] at X91 l91 y91 z91 st91 hQ91
      subst l91 y91 z91
      obtain ⟨rfl, N91, eh91⟩ := hQ91
      have N91' := Fr.app N77 N91
      have K93 : Steps p.tables e below _ (T91.setTop (mkF m 187 #[.val (.int p0), .val (.int p1), .val (.int p2), .val (.int p3), .val (.int p4), .val (.int p5), .val (.ref b2), .val (.ref b5), .val (.ref b22), .val (.int (p5 &&& (1 : Int32))), .val (.long v43_0), .second, .val (.long v48_0), .second, .val (.int v53_0), .val (.int v77_0), .val (.int v72_0)] [(.int ((if (v48_0.toInt32) < (if (p5 &&& (1 : Int32)) = (0 : Int32) then p0 else p2) then (0 : Int32) else (if (if (p5 &&& (1 : Int32)) = (0 : Int32) then p1 else p3) < (v48_0.toInt32) then (0 : Int32) else (1 : Int32))) &&& 1))])) := st91
      obtain ⟨r92, hr92⟩ : ∃ z : Int32, ((if (v48_0.toInt32) < (if (p5 &&& (1 : Int32)) = (0 : Int32) then p0 else p2) then (0 : Int32) else (if (if (p5 &&& (1 : Int32)) = (0 : Int32) then p1 else p3) < (v48_0.toInt32) then (0 : Int32) else (1 : Int32))) &&& 1) = z := ⟨_, rfl⟩
      rw [hr92] at K93
      have K94 : Steps p.tables e below _ (T91.setTop (mkF m 189 #[.val (.int p0), .val (.int p1), .val (.int p2), .val (.int p3), .val (.int p4), .val (.int p5), .val (.ref b2), .val (.ref b5), .val (.ref b22), .val (.int (p5 &&& (1 : Int32))), .val (.long v43_0), .second, .val (.long v48_0), .second, .val (.int v53_0), .val (.int v77_0), .val (.int v72_0)] [(.int v72_0), (.int r92)])) := K93.trans (by
        show Steps p.tables e below (T91.setTop (mkF m 187 #[.val (.int p0), .val (.int p1), .val (.int p2), .val (.int p3), .val (.int p4), .val (.int p5), .val (.ref b2), .val (.ref b5), .val (.ref b22), .val (.int (p5 &&& (1 : Int32))), .val (.long v43_0), .second, .val (.long v48_0), .second, .val (.int v53_0), .val (.int v77_0), .val (.int v72_0)] [(.int r92)])) _
        refine XS.iload X91.here hx rfl (hb hby at_187) rfl ?_
        show Steps p.tables e below (T91.setTop (mkF m 189 #[.val (.int p0), .val (.int p1), .val (.int p2), .val (.int p3), .val (.int p4), .val (.int p5), .val (.ref b2), .val (.ref b5), .val (.ref b22), .val (.int (p5 &&& (1 : Int32))), .val (.long v43_0), .second, .val (.long v48_0), .second, .val (.int v53_0), .val (.int v77_0), .val (.int v72_0)] [(.int v72_0), (.int r92)])) _
        exact Steps.refl _)
      by_cases hc189 : r92 = v72_0
      · have K95 : Steps p.tables e below _ (T91.setTop (mkF m 197 #[.val (.int p0), .val (.int p1), .val (.int p2), .val (.int p3), .val (.int p4), .val (.int p5), .val (.ref b2), .val (.ref b5), .val (.ref b22), .val (.int (p5 &&& (1 : Int32))), .val (.long v43_0), .second, .val (.long v48_0), .second, .val (.int v53_0), .val (.int v77_0), .val (.int v72_0)] [(.int (1 : Int32))])) := K94.trans (by
          show Steps p.tables e below (T91.setTop (mkF m 189 #[.val (.int p0), .val (.int p1), .val (.int p2), .val (.int p3), .val (.int p4), .val (.int p5), .val (.ref b2), .val (.ref b5), .val (.ref b22), .val (.int (p5 &&& (1 : Int32))), .val (.long v43_0), .second, .val (.long v48_0), .second, .val (.int v53_0), .val (.int v77_0), .val (.int v72_0)] [(.int v72_0), (.int r92)])) _
          refine XS.icmpNo X91.here hx rfl (hb hby at_189) rfl (teq hc189).2 ?_
          show Steps p.tables e below (T91.setTop (mkF m 192 #[.val (.int p0), .val (.int p1), .val (.int p2), .val (.int p3), .val (.int p4), .val (.int p5), .val (.ref b2), .val (.ref b5), .val (.ref b22), .val (.int (p5 &&& (1 : Int32))), .val (.long v43_0), .second, .val (.long v48_0), .second, .val (.int v53_0), .val (.int v77_0), .val (.int v72_0)] [])) _
          refine XS.iconst X91.here hx rfl (hb hby at_192) ?_
          show Steps p.tables e below (T91.setTop (mkF m 193 #[.val (.int p0), .val (.int p1), .val (.int p2), .val (.int p3), .val (.int p4), .val (.int p5), .val (.ref b2), .val (.ref b5), .val (.ref b22), .val (.int (p5 &&& (1 : Int32))), .val (.long v43_0), .second, .val (.long v48_0), .second, .val (.int v53_0), .val (.int v77_0), .val (.int v72_0)] [(.int (1 : Int32))])) _
          refine XS.goto X91.here hx rfl (pc0 := 193) (pc' := 197) rfl (hb hby at_193) (by decide) (by decide) ?_
          show Steps p.tables e below (T91.setTop (mkF m 197 #[.val (.int p0), .val (.int p1), .val (.int p2), .val (.int p3), .val (.int p4), .val (.int p5), .val (.ref b2), .val (.ref b5), .val (.ref b22), .val (.int (p5 &&& (1 : Int32))), .val (.long v43_0), .second, .val (.long v48_0), .second, .val (.int v53_0), .val (.int v77_0), .val (.int v72_0)] [(.int (1 : Int32))])) _
          exact Steps.refl _)
        subst hr92
        exact ⟨T91, _, (1 : Int32), X91, eh91, N91', (by rw [if_neg hc174, if_pos hc189]), K95⟩
      · have K96 : Steps p.tables e below _ (T91.setTop (mkF m 197 #[.val (.int p0), .val (.int p1), .val (.int p2), .val (.int p3), .val (.int p4), .val (.int p5), .val (.ref b2), .val (.ref b5), .val (.ref b22), .val (.int (p5 &&& (1 : Int32))), .val (.long v43_0), .second, .val (.long v48_0), .second, .val (.int v53_0), .val (.int v77_0), .val (.int v72_0)] [(.int (0 : Int32))])) := K94.trans (by
          show Steps p.tables e below (T91.setTop (mkF m 189 #[.val (.int p0), .val (.int p1), .val (.int p2), .val (.int p3), .val (.int p4), .val (.int p5), .val (.ref b2), .val (.ref b5), .val (.ref b22), .val (.int (p5 &&& (1 : Int32))), .val (.long v43_0), .second, .val (.long v48_0), .second, .val (.int v53_0), .val (.int v77_0), .val (.int v72_0)] [(.int v72_0), (.int r92)])) _
          refine XS.icmpYes X91.here hx rfl (pc0 := 189) (pc' := 196) rfl (hb hby at_189) rfl (feq hc189).2 (by decide) (by decide) ?_
          show Steps p.tables e below (T91.setTop (mkF m 196 #[.val (.int p0), .val (.int p1), .val (.int p2), .val (.int p3), .val (.int p4), .val (.int p5), .val (.ref b2), .val (.ref b5), .val (.ref b22), .val (.int (p5 &&& (1 : Int32))), .val (.long v43_0), .second, .val (.long v48_0), .second, .val (.int v53_0), .val (.int v77_0), .val (.int v72_0)] [])) _
          refine XS.iconst X91.here hx rfl (hb hby at_196) ?_
          show Steps p.tables e below (T91.setTop (mkF m 197 #[.val (.int p0), .val (.int p1), .val (.int p2), .val (.int p3), .val (.int p4), .val (.int p5), .val (.ref b2), .val (.ref b5), .val (.ref b22), .val (.int (p5 &&& (1 : Int32))), .val (.long v43_0), .second, .val (.long v48_0), .second, .val (.int v53_0), .val (.int v77_0), .val (.int v72_0)] [(.int (0 : Int32))])) _
          exact Steps.refl _)
        subst hr92
        exact ⟨T91, _, (0 : Int32), X91, eh91, N91', (by rw [if_neg hc174, if_neg hc189]), K96⟩
  have K97 := K87.trans S88
  have K98 : Steps p.tables e below _ (T88.setTop (mkF m 205 #[.val (.int p0), .val (.int p1), .val (.int p2), .val (.int p3), .val (.int p4), .val (.int p5), .val (.ref b2), .val (.ref b5), .val (.ref b22), .val (.int (p5 &&& (1 : Int32))), .val (.long v43_0), .second, .val (.long v48_0), .second, .val (.int v53_0), .val (.int v88_0), .val (.int v72_0)] [(.int (lcmpW v43_0 (-2147483648 : Int64)))])) := K97.trans (by
    show Steps p.tables e below (T88.setTop (mkF m 197 #[.val (.int p0), .val (.int p1), .val (.int p2), .val (.int p3), .val (.int p4), .val (.int p5), .val (.ref b2), .val (.ref b5), .val (.ref b22), .val (.int (p5 &&& (1 : Int32))), .val (.long v43_0), .second, .val (.long v48_0), .second, .val (.int v53_0), .val (.int v77_0), .val (.int v72_0)] [(.int v88_0)])) _
    refine XS.istore X88.here hx rfl (hb hby at_197) rfl (l' := #[.val (.int p0), .val (.int p1), .val (.int p2), .val (.int p3), .val (.int p4), .val (.int p5), .val (.ref b2), .val (.ref b5), .val (.ref b22), .val (.int (p5 &&& (1 : Int32))), .val (.long v43_0), .second, .val (.long v48_0), .second, .val (.int v53_0), .val (.int v88_0), .val (.int v72_0)]) rfl ?_
    show Steps p.tables e below (T88.setTop (mkF m 199 #[.val (.int p0), .val (.int p1), .val (.int p2), .val (.int p3), .val (.int p4), .val (.int p5), .val (.ref b2), .val (.ref b5), .val (.ref b22), .val (.int (p5 &&& (1 : Int32))), .val (.long v43_0), .second, .val (.long v48_0), .second, .val (.int v53_0), .val (.int v88_0), .val (.int v72_0)] [])) _
    refine XS.lload X88.here hx rfl (hb hby at_199) rfl ?_
    show Steps p.tables e below (T88.setTop (mkF m 201 #[.val (.int p0), .val (.int p1), .val (.int p2), .val (.int p3), .val (.int p4), .val (.int p5), .val (.ref b2), .val (.ref b5), .val (.ref b22), .val (.int (p5 &&& (1 : Int32))), .val (.long v43_0), .second, .val (.long v48_0), .second, .val (.int v53_0), .val (.int v88_0), .val (.int v72_0)] [(.long v43_0)])) _
    refine X88.ldc2Long hx hown (mvT hZ (hw _ (List.mem_of_getElem? (i := 33) rfl))) (g := (mkF m 201 #[.val (.int p0), .val (.int p1), .val (.int p2), .val (.int p3), .val (.int p4), .val (.int p5), .val (.ref b2), .val (.ref b5), .val (.ref b22), .val (.int (p5 &&& (1 : Int32))), .val (.long v43_0), .second, .val (.long v48_0), .second, .val (.int v53_0), .val (.int v88_0), .val (.int v72_0)] [(.long v43_0)])) rfl (hb hby at_201) _ ?_
    show Steps p.tables e below (T88.setTop (mkF m 204 #[.val (.int p0), .val (.int p1), .val (.int p2), .val (.int p3), .val (.int p4), .val (.int p5), .val (.ref b2), .val (.ref b5), .val (.ref b22), .val (.int (p5 &&& (1 : Int32))), .val (.long v43_0), .second, .val (.long v48_0), .second, .val (.int v53_0), .val (.int v88_0), .val (.int v72_0)] [(.long (-2147483648 : Int64)), (.long v43_0)])) _
    refine XS.lcmp X88.here hx rfl (hb hby at_204) rfl ?_
    show Steps p.tables e below (T88.setTop (mkF m 205 #[.val (.int p0), .val (.int p1), .val (.int p2), .val (.int p3), .val (.int p4), .val (.int p5), .val (.ref b2), .val (.ref b5), .val (.ref b22), .val (.int (p5 &&& (1 : Int32))), .val (.long v43_0), .second, .val (.long v48_0), .second, .val (.int v53_0), .val (.int v88_0), .val (.int v72_0)] [(.int (lcmpW v43_0 (-2147483648 : Int64)))])) _
    exact Steps.refl _)
  obtain ⟨T99, L99, v99_0, X99, e99, N99, hv99_0, S99⟩ : ∃ (T99 : State) (L99 : List Loc) (v99_0 : Int32), Stand p l e room_1 (s.setVm T27.vm) m #[(.int p0), (.int p1), (.int p2), (.int p3), (.int p4), (.int p5)] below meth c T99 L99 6 19 ∧ T99.heap = T40.heap ∧ Fr n0 L99 ∧ (if (-2147483648 : Int64) < v43_0 then (if v88_0 = (0 : Int32) then (0 : Int32) else (if ((if ((v43_0 - (1 : Int64)).toInt32) < (if (p5 &&& (1 : Int32)) = (0 : Int32) then p0 else p2) then (0 : Int32) else (if (if (p5 &&& (1 : Int32)) = (0 : Int32) then p1 else p3) < ((v43_0 - (1 : Int64)).toInt32) then (0 : Int32) else (1 : Int32))) &&& 1) = (0 : Int32) then (1 : Int32) else (0 : Int32))) else v88_0) = v99_0 ∧ Steps p.tables e below (T88.setTop (mkF m 205 #[.val (.int p0), .val (.int p1), .val (.int p2), .val (.int p3), .val (.int p4), .val (.int p5), .val (.ref b2), .val (.ref b5), .val (.ref b22), .val (.int (p5 &&& (1 : Int32))), .val (.long v43_0), .second, .val (.long v48_0), .second, .val (.int v53_0), .val (.int v88_0), .val (.int v72_0)] [(.int (lcmpW v43_0 (-2147483648 : Int64)))])) (T99.setTop (mkF m 235 #[.val (.int p0), .val (.int p1), .val (.int p2), .val (.int p3), .val (.int p4), .val (.int p5), .val (.ref b2), .val (.ref b5), .val (.ref b22), .val (.int (p5 &&& (1 : Int32))), .val (.long v43_0), .second, .val (.long v48_0), .second, .val (.int v53_0), .val (.int v99_0), .val (.int v72_0)] [])) := by
    have R99 : Steps p.tables e below (T88.setTop (mkF m 205 #[.val (.int p0), .val (.int p1), .val (.int p2), .val (.int p3), .val (.int p4), .val (.int p5), .val (.ref b2), .val (.ref b5), .val (.ref b22), .val (.int (p5 &&& (1 : Int32))), .val (.long v43_0), .second, .val (.long v48_0), .second, .val (.int v53_0), .val (.int v88_0), .val (.int v72_0)] [(.int (lcmpW v43_0 (-2147483648 : Int64)))])) (T88.setTop (mkF m 205 #[.val (.int p0), .val (.int p1), .val (.int p2), .val (.int p3), .val (.int p4), .val (.int p5), .val (.ref b2), .val (.ref b5), .val (.ref b22), .val (.int (p5 &&& (1 : Int32))), .val (.long v43_0), .second, .val (.long v48_0), .second, .val (.int v53_0), .val (.int v88_0), .val (.int v72_0)] [(.int (lcmpW v43_0 (-2147483648 : Int64)))])) := Steps.refl _
    by_cases hc205 : (-2147483648 : Int64) < v43_0
    · have K100 : Steps p.tables e below _ (T88.setTop (mkF m 210 #[.val (.int p0), .val (.int p1), .val (.int p2), .val (.int p3), .val (.int p4), .val (.int p5), .val (.ref b2), .val (.ref b5), .val (.ref b22), .val (.int (p5 &&& (1 : Int32))), .val (.long v43_0), .second, .val (.long v48_0), .second, .val (.int v53_0), .val (.int v88_0), .val (.int v72_0)] [(.int v88_0)])) := R99.trans (by
        show Steps p.tables e below (T88.setTop (mkF m 205 #[.val (.int p0), .val (.int p1), .val (.int p2), .val (.int p3), .val (.int p4), .val (.int p5), .val (.ref b2), .val (.ref b5), .val (.ref b22), .val (.int (p5 &&& (1 : Int32))), .val (.long v43_0), .second, .val (.long v48_0), .second, .val (.int v53_0), .val (.int v88_0), .val (.int v72_0)] [(.int (lcmpW v43_0 (-2147483648 : Int64)))])) _
        refine XS.ifNo X88.here hx rfl (hb hby at_205) rfl ((if0 _ _).trans (tlt ((lw_gt v43_0 (-2147483648 : Int64)).mpr hc205)).2.2.2) ?_
        show Steps p.tables e below (T88.setTop (mkF m 208 #[.val (.int p0), .val (.int p1), .val (.int p2), .val (.int p3), .val (.int p4), .val (.int p5), .val (.ref b2), .val (.ref b5), .val (.ref b22), .val (.int (p5 &&& (1 : Int32))), .val (.long v43_0), .second, .val (.long v48_0), .second, .val (.int v53_0), .val (.int v88_0), .val (.int v72_0)] [])) _
        refine XS.iload X88.here hx rfl (hb hby at_208) rfl ?_
        show Steps p.tables e below (T88.setTop (mkF m 210 #[.val (.int p0), .val (.int p1), .val (.int p2), .val (.int p3), .val (.int p4), .val (.int p5), .val (.ref b2), .val (.ref b5), .val (.ref b22), .val (.int (p5 &&& (1 : Int32))), .val (.long v43_0), .second, .val (.long v48_0), .second, .val (.int v53_0), .val (.int v88_0), .val (.int v72_0)] [(.int v88_0)])) _
        exact Steps.refl _)
      obtain ⟨T101, L101, v101_0, X101, e101, N101, hv101_0, S101⟩ : ∃ (T101 : State) (L101 : List Loc) (v101_0 : Int32), Stand p l e room_1 (s.setVm T27.vm) m #[(.int p0), (.int p1), (.int p2), (.int p3), (.int p4), (.int p5)] below meth c T101 L101 6 19 ∧ T101.heap = T40.heap ∧ Fr n0 L101 ∧ (if v88_0 = (0 : Int32) then (0 : Int32) else (if ((if ((v43_0 - (1 : Int64)).toInt32) < (if (p5 &&& (1 : Int32)) = (0 : Int32) then p0 else p2) then (0 : Int32) else (if (if (p5 &&& (1 : Int32)) = (0 : Int32) then p1 else p3) < ((v43_0 - (1 : Int64)).toInt32) then (0 : Int32) else (1 : Int32))) &&& 1) = (0 : Int32) then (1 : Int32) else (0 : Int32))) = v101_0 ∧ Steps p.tables e below (T88.setTop (mkF m 210 #[.val (.int p0), .val (.int p1), .val (.int p2), .val (.int p3), .val (.int p4), .val (.int p5), .val (.ref b2), .val (.ref b5), .val (.ref b22), .val (.int (p5 &&& (1 : Int32))), .val (.long v43_0), .second, .val (.long v48_0), .second, .val (.int v53_0), .val (.int v88_0), .val (.int v72_0)] [(.int v88_0)])) (T101.setTop (mkF m 233 #[.val (.int p0), .val (.int p1), .val (.int p2), .val (.int p3), .val (.int p4), .val (.int p5), .val (.ref b2), .val (.ref b5), .val (.ref b22), .val (.int (p5 &&& (1 : Int32))), .val (.long v43_0), .second, .val (.long v48_0), .second, .val (.int v53_0), .val (.int v88_0), .val (.int v72_0)] [(.int v101_0)])) := by
        have R101 : Steps p.tables e below (T88.setTop (mkF m 210 #[.val (.int p0), .val (.int p1), .val (.int p2), .val (.int p3), .val (.int p4), .val (.int p5), .val (.ref b2), .val (.ref b5), .val (.ref b22), .val (.int (p5 &&& (1 : Int32))), .val (.long v43_0), .second, .val (.long v48_0), .second, .val (.int v53_0), .val (.int v88_0), .val (.int v72_0)] [(.int v88_0)])) (T88.setTop (mkF m 210 #[.val (.int p0), .val (.int p1), .val (.int p2), .val (.int p3), .val (.int p4), .val (.int p5), .val (.ref b2), .val (.ref b5), .val (.ref b22), .val (.int (p5 &&& (1 : Int32))), .val (.long v43_0), .second, .val (.long v48_0), .second, .val (.int v53_0), .val (.int v88_0), .val (.int v72_0)] [(.int v88_0)])) := Steps.refl _
        by_cases hc210 : v88_0 = (0 : Int32)
        · have K102 : Steps p.tables e below _ (T88.setTop (mkF m 233 #[.val (.int p0), .val (.int p1), .val (.int p2), .val (.int p3), .val (.int p4), .val (.int p5), .val (.ref b2), .val (.ref b5), .val (.ref b22), .val (.int (p5 &&& (1 : Int32))), .val (.long v43_0), .second, .val (.long v48_0), .second, .val (.int v53_0), .val (.int v88_0), .val (.int v72_0)] [(.int (0 : Int32))])) := R101.trans (by
            show Steps p.tables e below (T88.setTop (mkF m 210 #[.val (.int p0), .val (.int p1), .val (.int p2), .val (.int p3), .val (.int p4), .val (.int p5), .val (.ref b2), .val (.ref b5), .val (.ref b22), .val (.int (p5 &&& (1 : Int32))), .val (.long v43_0), .second, .val (.long v48_0), .second, .val (.int v53_0), .val (.int v88_0), .val (.int v72_0)] [(.int v88_0)])) _
            refine XS.ifYes X88.here hx rfl (pc0 := 210) (pc' := 232) rfl (hb hby at_210) rfl ((if0 _ _).trans (teq hc210).1) (by decide) (by decide) ?_
            show Steps p.tables e below (T88.setTop (mkF m 232 #[.val (.int p0), .val (.int p1), .val (.int p2), .val (.int p3), .val (.int p4), .val (.int p5), .val (.ref b2), .val (.ref b5), .val (.ref b22), .val (.int (p5 &&& (1 : Int32))), .val (.long v43_0), .second, .val (.long v48_0), .second, .val (.int v53_0), .val (.int v88_0), .val (.int v72_0)] [])) _
            refine XS.iconst X88.here hx rfl (hb hby at_232) ?_
            show Steps p.tables e below (T88.setTop (mkF m 233 #[.val (.int p0), .val (.int p1), .val (.int p2), .val (.int p3), .val (.int p4), .val (.int p5), .val (.ref b2), .val (.ref b5), .val (.ref b22), .val (.int (p5 &&& (1 : Int32))), .val (.long v43_0), .second, .val (.long v48_0), .second, .val (.int v53_0), .val (.int v88_0), .val (.int v72_0)] [(.int (0 : Int32))])) _
            exact Steps.refl _)
          exact ⟨T88, _, (0 : Int32), X88, e88, N88, (by rw [if_pos hc210]), K102⟩
        · have K103 : Steps p.tables e below _ (T88.setTop (mkF m 222 #[.val (.int p0), .val (.int p1), .val (.int p2), .val (.int p3), .val (.int p4), .val (.int p5), .val (.ref b2), .val (.ref b5), .val (.ref b22), .val (.int (p5 &&& (1 : Int32))), .val (.long v43_0), .second, .val (.long v48_0), .second, .val (.int v53_0), .val (.int v88_0), .val (.int v72_0)] [(.int ((v43_0 - (1 : Int64)).toInt32)), (.int (p5 &&& (1 : Int32))), (.ref b22)])) := R101.trans (by
            show Steps p.tables e below (T88.setTop (mkF m 210 #[.val (.int p0), .val (.int p1), .val (.int p2), .val (.int p3), .val (.int p4), .val (.int p5), .val (.ref b2), .val (.ref b5), .val (.ref b22), .val (.int (p5 &&& (1 : Int32))), .val (.long v43_0), .second, .val (.long v48_0), .second, .val (.int v53_0), .val (.int v88_0), .val (.int v72_0)] [(.int v88_0)])) _
            refine XS.ifNo X88.here hx rfl (hb hby at_210) rfl ((if0 _ _).trans (feq hc210).1) ?_
            show Steps p.tables e below (T88.setTop (mkF m 213 #[.val (.int p0), .val (.int p1), .val (.int p2), .val (.int p3), .val (.int p4), .val (.int p5), .val (.ref b2), .val (.ref b5), .val (.ref b22), .val (.int (p5 &&& (1 : Int32))), .val (.long v43_0), .second, .val (.long v48_0), .second, .val (.int v53_0), .val (.int v88_0), .val (.int v72_0)] [])) _
            refine XS.aload X88.here hx rfl (hb hby at_213) rfl rfl ?_
            show Steps p.tables e below (T88.setTop (mkF m 215 #[.val (.int p0), .val (.int p1), .val (.int p2), .val (.int p3), .val (.int p4), .val (.int p5), .val (.ref b2), .val (.ref b5), .val (.ref b22), .val (.int (p5 &&& (1 : Int32))), .val (.long v43_0), .second, .val (.long v48_0), .second, .val (.int v53_0), .val (.int v88_0), .val (.int v72_0)] [(.ref b22)])) _
            refine XS.iload X88.here hx rfl (hb hby at_215) rfl ?_
            show Steps p.tables e below (T88.setTop (mkF m 217 #[.val (.int p0), .val (.int p1), .val (.int p2), .val (.int p3), .val (.int p4), .val (.int p5), .val (.ref b2), .val (.ref b5), .val (.ref b22), .val (.int (p5 &&& (1 : Int32))), .val (.long v43_0), .second, .val (.long v48_0), .second, .val (.int v53_0), .val (.int v88_0), .val (.int v72_0)] [(.int (p5 &&& (1 : Int32))), (.ref b22)])) _
            refine XS.lload X88.here hx rfl (hb hby at_217) rfl ?_
            show Steps p.tables e below (T88.setTop (mkF m 219 #[.val (.int p0), .val (.int p1), .val (.int p2), .val (.int p3), .val (.int p4), .val (.int p5), .val (.ref b2), .val (.ref b5), .val (.ref b22), .val (.int (p5 &&& (1 : Int32))), .val (.long v43_0), .second, .val (.long v48_0), .second, .val (.int v53_0), .val (.int v88_0), .val (.int v72_0)] [(.long v43_0), (.int (p5 &&& (1 : Int32))), (.ref b22)])) _
            refine XS.lconst X88.here hx rfl (hb hby at_219) ?_
            show Steps p.tables e below (T88.setTop (mkF m 220 #[.val (.int p0), .val (.int p1), .val (.int p2), .val (.int p3), .val (.int p4), .val (.int p5), .val (.ref b2), .val (.ref b5), .val (.ref b22), .val (.int (p5 &&& (1 : Int32))), .val (.long v43_0), .second, .val (.long v48_0), .second, .val (.int v53_0), .val (.int v88_0), .val (.int v72_0)] [(.long (1 : Int64)), (.long v43_0), (.int (p5 &&& (1 : Int32))), (.ref b22)])) _
            refine XS.lsub X88.here hx rfl (hb hby at_220) rfl ?_
            show Steps p.tables e below (T88.setTop (mkF m 221 #[.val (.int p0), .val (.int p1), .val (.int p2), .val (.int p3), .val (.int p4), .val (.int p5), .val (.ref b2), .val (.ref b5), .val (.ref b22), .val (.int (p5 &&& (1 : Int32))), .val (.long v43_0), .second, .val (.long v48_0), .second, .val (.int v53_0), .val (.int v88_0), .val (.int v72_0)] [(.long (v43_0 - (1 : Int64))), (.int (p5 &&& (1 : Int32))), (.ref b22)])) _
            refine XS.l2i X88.here hx rfl (hb hby at_221) rfl ?_
            show Steps p.tables e below (T88.setTop (mkF m 222 #[.val (.int p0), .val (.int p1), .val (.int p2), .val (.int p3), .val (.int p4), .val (.int p5), .val (.ref b2), .val (.ref b5), .val (.ref b22), .val (.int (p5 &&& (1 : Int32))), .val (.long v43_0), .second, .val (.long v48_0), .second, .val (.int v53_0), .val (.int v88_0), .val (.int v72_0)] [(.int ((v43_0 - (1 : Int64)).toInt32)), (.int (p5 &&& (1 : Int32))), (.ref b22)])) _
            exact Steps.refl _)
          obtain ⟨cq104, kq104, q104a, q104b, q104c⟩ := isOf hZ e88 Q40_0
          obtain ⟨_, _, ⟨T104, L104, k104, n104⟩, -, X104, ⟨Lc104, hQ104, l104, y104, z104⟩, st104⟩ := X88.virtualBack hx (y := (⟨"com/example/futures_from_states/futuresfromstates/model/ArrayVariable", "inBounds", "(II)Z"⟩ : MethodName)) (z := (⟨"com/example/futures_from_states/futuresfromstates/model/ArrayVariable", "inBounds", "(II)Z"⟩ : MethodName)) hown (mvT hZ (hw _ (List.mem_of_getElem? (i := 28) rfl))) (mvT hZ (hw _ (List.mem_of_getElem? (i := 29) rfl))) (notFace_of_selects (args := #[]) (mvT hZ (hw _ (List.mem_of_getElem? (i := 31) rfl)))) (mvT hZ (hw _ (List.mem_of_getElem? (i := 31) rfl))) (mvT hZ (hw _ (List.mem_of_getElem? (i := 30) rfl))) (by decide) (backOf (W := 0) (rm3 l Z a0 hw [] b22 (p5 &&& (1 : Int32)) ((v43_0 - (1 : Int64)).toInt32) b2 b5 k2 k5 ([(.int p0), (.int p2)]) ([(.int p1), (.int p3)]) (if (p5 &&& (1 : Int32)) = (0 : Int32) then p0 else p2) (if (p5 &&& (1 : Int32)) = (0 : Int32) then p1 else p3) T40.heap n0 Z_60 Q40_2 Q40_3 V_61 V_62 (own_inb p5) (own_sel _ _ _) (own_sel _ _ _)) hZ (hw _ (List.mem_of_getElem? (i := 32) rfl)) (hw _ (List.mem_of_getElem? (i := 3) rfl)) (by decide) (by decide)) q104a q104c (g := (mkF m 222 #[.val (.int p0), .val (.int p1), .val (.int p2), .val (.int p3), .val (.int p4), .val (.int p5), .val (.ref b2), .val (.ref b5), .val (.ref b22), .val (.int (p5 &&& (1 : Int32))), .val (.long v43_0), .second, .val (.long v48_0), .second, .val (.int v53_0), .val (.int v88_0), .val (.int v72_0)] [(.int ((v43_0 - (1 : Int64)).toInt32)), (.int (p5 &&& (1 : Int32))), (.ref b22)])) rfl (by rw [hml]; rfl) K103 (argsL := [(.int (p5 &&& (1 : Int32))), (.int ((v43_0 - (1 : Int64)).toInt32))]) (rest := []) (lenOf pd_1 rfl) rfl (by show 2 * 0 + _ ≤ _; exact Nat.le_of_eq rfl) (hb hby at_222) (fun _ _ => ⟨rfl, e88, (by decide : 6 + 0 ≤ _), (by decide : 19 + 0 ≤ _)⟩)
          dsimp only [Pt.U, Pt.locs, Pt.cells, Pt.slots] at X104 l104 y104 z104 st104 hQ104
          subst l104 y104 z104
          obtain ⟨rfl, N104, eh104⟩ := hQ104
          have N104' := Fr.app N88 N104
          have K106 : Steps p.tables e below _ (T104.setTop (mkF m 225 #[.val (.int p0), .val (.int p1), .val (.int p2), .val (.int p3), .val (.int p4), .val (.int p5), .val (.ref b2), .val (.ref b5), .val (.ref b22), .val (.int (p5 &&& (1 : Int32))), .val (.long v43_0), .second, .val (.long v48_0), .second, .val (.int v53_0), .val (.int v88_0), .val (.int v72_0)] [(.int ((if ((v43_0 - (1 : Int64)).toInt32) < (if (p5 &&& (1 : Int32)) = (0 : Int32) then p0 else p2) then (0 : Int32) else (if (if (p5 &&& (1 : Int32)) = (0 : Int32) then p1 else p3) < ((v43_0 - (1 : Int64)).toInt32) then (0 : Int32) else (1 : Int32))) &&& 1))])) := st104
          obtain ⟨r105, hr105⟩ : ∃ z : Int32, ((if ((v43_0 - (1 : Int64)).toInt32) < (if (p5 &&& (1 : Int32)) = (0 : Int32) then p0 else p2) then (0 : Int32) else (if (if (p5 &&& (1 : Int32)) = (0 : Int32) then p1 else p3) < ((v43_0 - (1 : Int64)).toInt32) then (0 : Int32) else (1 : Int32))) &&& 1) = z := ⟨_, rfl⟩
          rw [hr105] at K106
          by_cases hc225 : r105 = (0 : Int32)
          · have K107 : Steps p.tables e below _ (T104.setTop (mkF m 233 #[.val (.int p0), .val (.int p1), .val (.int p2), .val (.int p3), .val (.int p4), .val (.int p5), .val (.ref b2), .val (.ref b5), .val (.ref b22), .val (.int (p5 &&& (1 : Int32))), .val (.long v43_0), .second, .val (.long v48_0), .second, .val (.int v53_0), .val (.int v88_0), .val (.int v72_0)] [(.int (1 : Int32))])) := K106.trans (by
              show Steps p.tables e below (T104.setTop (mkF m 225 #[.val (.int p0), .val (.int p1), .val (.int p2), .val (.int p3), .val (.int p4), .val (.int p5), .val (.ref b2), .val (.ref b5), .val (.ref b22), .val (.int (p5 &&& (1 : Int32))), .val (.long v43_0), .second, .val (.long v48_0), .second, .val (.int v53_0), .val (.int v88_0), .val (.int v72_0)] [(.int r105)])) _
              refine XS.ifNo X104.here hx rfl (hb hby at_225) rfl ((if0 _ _).trans (teq hc225).2) ?_
              show Steps p.tables e below (T104.setTop (mkF m 228 #[.val (.int p0), .val (.int p1), .val (.int p2), .val (.int p3), .val (.int p4), .val (.int p5), .val (.ref b2), .val (.ref b5), .val (.ref b22), .val (.int (p5 &&& (1 : Int32))), .val (.long v43_0), .second, .val (.long v48_0), .second, .val (.int v53_0), .val (.int v88_0), .val (.int v72_0)] [])) _
              refine XS.iconst X104.here hx rfl (hb hby at_228) ?_
              show Steps p.tables e below (T104.setTop (mkF m 229 #[.val (.int p0), .val (.int p1), .val (.int p2), .val (.int p3), .val (.int p4), .val (.int p5), .val (.ref b2), .val (.ref b5), .val (.ref b22), .val (.int (p5 &&& (1 : Int32))), .val (.long v43_0), .second, .val (.long v48_0), .second, .val (.int v53_0), .val (.int v88_0), .val (.int v72_0)] [(.int (1 : Int32))])) _
              refine XS.goto X104.here hx rfl (pc0 := 229) (pc' := 233) rfl (hb hby at_229) (by decide) (by decide) ?_
              show Steps p.tables e below (T104.setTop (mkF m 233 #[.val (.int p0), .val (.int p1), .val (.int p2), .val (.int p3), .val (.int p4), .val (.int p5), .val (.ref b2), .val (.ref b5), .val (.ref b22), .val (.int (p5 &&& (1 : Int32))), .val (.long v43_0), .second, .val (.long v48_0), .second, .val (.int v53_0), .val (.int v88_0), .val (.int v72_0)] [(.int (1 : Int32))])) _
              exact Steps.refl _)
            subst hr105
            exact ⟨T104, _, (1 : Int32), X104, eh104, N104', (by rw [if_neg hc210, if_pos hc225]), K107⟩
          · have K108 : Steps p.tables e below _ (T104.setTop (mkF m 233 #[.val (.int p0), .val (.int p1), .val (.int p2), .val (.int p3), .val (.int p4), .val (.int p5), .val (.ref b2), .val (.ref b5), .val (.ref b22), .val (.int (p5 &&& (1 : Int32))), .val (.long v43_0), .second, .val (.long v48_0), .second, .val (.int v53_0), .val (.int v88_0), .val (.int v72_0)] [(.int (0 : Int32))])) := K106.trans (by
              show Steps p.tables e below (T104.setTop (mkF m 225 #[.val (.int p0), .val (.int p1), .val (.int p2), .val (.int p3), .val (.int p4), .val (.int p5), .val (.ref b2), .val (.ref b5), .val (.ref b22), .val (.int (p5 &&& (1 : Int32))), .val (.long v43_0), .second, .val (.long v48_0), .second, .val (.int v53_0), .val (.int v88_0), .val (.int v72_0)] [(.int r105)])) _
              refine XS.ifYes X104.here hx rfl (pc0 := 225) (pc' := 232) rfl (hb hby at_225) rfl ((if0 _ _).trans (feq hc225).2) (by decide) (by decide) ?_
              show Steps p.tables e below (T104.setTop (mkF m 232 #[.val (.int p0), .val (.int p1), .val (.int p2), .val (.int p3), .val (.int p4), .val (.int p5), .val (.ref b2), .val (.ref b5), .val (.ref b22), .val (.int (p5 &&& (1 : Int32))), .val (.long v43_0), .second, .val (.long v48_0), .second, .val (.int v53_0), .val (.int v88_0), .val (.int v72_0)] [])) _
              refine XS.iconst X104.here hx rfl (hb hby at_232) ?_
              show Steps p.tables e below (T104.setTop (mkF m 233 #[.val (.int p0), .val (.int p1), .val (.int p2), .val (.int p3), .val (.int p4), .val (.int p5), .val (.ref b2), .val (.ref b5), .val (.ref b22), .val (.int (p5 &&& (1 : Int32))), .val (.long v43_0), .second, .val (.long v48_0), .second, .val (.int v53_0), .val (.int v88_0), .val (.int v72_0)] [(.int (0 : Int32))])) _
              exact Steps.refl _)
            subst hr105
            exact ⟨T104, _, (0 : Int32), X104, eh104, N104', (by rw [if_neg hc210, if_neg hc225]), K108⟩
      have K109 := K100.trans S101
      have K110 : Steps p.tables e below _ (T101.setTop (mkF m 235 #[.val (.int p0), .val (.int p1), .val (.int p2), .val (.int p3), .val (.int p4), .val (.int p5), .val (.ref b2), .val (.ref b5), .val (.ref b22), .val (.int (p5 &&& (1 : Int32))), .val (.long v43_0), .second, .val (.long v48_0), .second, .val (.int v53_0), .val (.int v101_0), .val (.int v72_0)] [])) := K109.trans (by
        show Steps p.tables e below (T101.setTop (mkF m 233 #[.val (.int p0), .val (.int p1), .val (.int p2), .val (.int p3), .val (.int p4), .val (.int p5), .val (.ref b2), .val (.ref b5), .val (.ref b22), .val (.int (p5 &&& (1 : Int32))), .val (.long v43_0), .second, .val (.long v48_0), .second, .val (.int v53_0), .val (.int v88_0), .val (.int v72_0)] [(.int v101_0)])) _
        refine XS.istore X101.here hx rfl (hb hby at_233) rfl (l' := #[.val (.int p0), .val (.int p1), .val (.int p2), .val (.int p3), .val (.int p4), .val (.int p5), .val (.ref b2), .val (.ref b5), .val (.ref b22), .val (.int (p5 &&& (1 : Int32))), .val (.long v43_0), .second, .val (.long v48_0), .second, .val (.int v53_0), .val (.int v101_0), .val (.int v72_0)]) rfl ?_
        show Steps p.tables e below (T101.setTop (mkF m 235 #[.val (.int p0), .val (.int p1), .val (.int p2), .val (.int p3), .val (.int p4), .val (.int p5), .val (.ref b2), .val (.ref b5), .val (.ref b22), .val (.int (p5 &&& (1 : Int32))), .val (.long v43_0), .second, .val (.long v48_0), .second, .val (.int v53_0), .val (.int v101_0), .val (.int v72_0)] [])) _
        exact Steps.refl _)
      subst hv101_0
      exact ⟨T101, _, (if v88_0 = (0 : Int32) then (0 : Int32) else (if ((if ((v43_0 - (1 : Int64)).toInt32) < (if (p5 &&& (1 : Int32)) = (0 : Int32) then p0 else p2) then (0 : Int32) else (if (if (p5 &&& (1 : Int32)) = (0 : Int32) then p1 else p3) < ((v43_0 - (1 : Int64)).toInt32) then (0 : Int32) else (1 : Int32))) &&& 1) = (0 : Int32) then (1 : Int32) else (0 : Int32))), X101, e101, N101, (by rw [if_pos hc205]), K110⟩
    · have K111 : Steps p.tables e below _ (T88.setTop (mkF m 235 #[.val (.int p0), .val (.int p1), .val (.int p2), .val (.int p3), .val (.int p4), .val (.int p5), .val (.ref b2), .val (.ref b5), .val (.ref b22), .val (.int (p5 &&& (1 : Int32))), .val (.long v43_0), .second, .val (.long v48_0), .second, .val (.int v53_0), .val (.int v88_0), .val (.int v72_0)] [])) := R99.trans (by
        show Steps p.tables e below (T88.setTop (mkF m 205 #[.val (.int p0), .val (.int p1), .val (.int p2), .val (.int p3), .val (.int p4), .val (.int p5), .val (.ref b2), .val (.ref b5), .val (.ref b22), .val (.int (p5 &&& (1 : Int32))), .val (.long v43_0), .second, .val (.long v48_0), .second, .val (.int v53_0), .val (.int v88_0), .val (.int v72_0)] [(.int (lcmpW v43_0 (-2147483648 : Int64)))])) _
        refine XS.ifYes X88.here hx rfl (pc0 := 205) (pc' := 235) rfl (hb hby at_205) rfl ((if0 _ _).trans (flt (fun z => hc205 ((lw_gt v43_0 (-2147483648 : Int64)).mp z))).2.2.2) (by decide) (by decide) ?_
        show Steps p.tables e below (T88.setTop (mkF m 235 #[.val (.int p0), .val (.int p1), .val (.int p2), .val (.int p3), .val (.int p4), .val (.int p5), .val (.ref b2), .val (.ref b5), .val (.ref b22), .val (.int (p5 &&& (1 : Int32))), .val (.long v43_0), .second, .val (.long v48_0), .second, .val (.int v53_0), .val (.int v88_0), .val (.int v72_0)] [])) _
        exact Steps.refl _)
      exact ⟨T88, _, v88_0, X88, e88, N88, (by rw [if_neg hc205]), K111⟩
  have K112 := K98.trans S99
  have K113 : Steps p.tables e below _ (T99.setTop (mkF m 241 #[.val (.int p0), .val (.int p1), .val (.int p2), .val (.int p3), .val (.int p4), .val (.int p5), .val (.ref b2), .val (.ref b5), .val (.ref b22), .val (.int (p5 &&& (1 : Int32))), .val (.long v43_0), .second, .val (.long v48_0), .second, .val (.int v53_0), .val (.int v99_0), .val (.int v72_0)] [(.int (lcmpW v48_0 (2147483647 : Int64)))])) := K112.trans (by
    show Steps p.tables e below (T99.setTop (mkF m 235 #[.val (.int p0), .val (.int p1), .val (.int p2), .val (.int p3), .val (.int p4), .val (.int p5), .val (.ref b2), .val (.ref b5), .val (.ref b22), .val (.int (p5 &&& (1 : Int32))), .val (.long v43_0), .second, .val (.long v48_0), .second, .val (.int v53_0), .val (.int v99_0), .val (.int v72_0)] [])) _
    refine XS.lload X99.here hx rfl (hb hby at_235) rfl ?_
    show Steps p.tables e below (T99.setTop (mkF m 237 #[.val (.int p0), .val (.int p1), .val (.int p2), .val (.int p3), .val (.int p4), .val (.int p5), .val (.ref b2), .val (.ref b5), .val (.ref b22), .val (.int (p5 &&& (1 : Int32))), .val (.long v43_0), .second, .val (.long v48_0), .second, .val (.int v53_0), .val (.int v99_0), .val (.int v72_0)] [(.long v48_0)])) _
    refine X99.ldc2Long hx hown (mvT hZ (hw _ (List.mem_of_getElem? (i := 34) rfl))) (g := (mkF m 237 #[.val (.int p0), .val (.int p1), .val (.int p2), .val (.int p3), .val (.int p4), .val (.int p5), .val (.ref b2), .val (.ref b5), .val (.ref b22), .val (.int (p5 &&& (1 : Int32))), .val (.long v43_0), .second, .val (.long v48_0), .second, .val (.int v53_0), .val (.int v99_0), .val (.int v72_0)] [(.long v48_0)])) rfl (hb hby at_237) _ ?_
    show Steps p.tables e below (T99.setTop (mkF m 240 #[.val (.int p0), .val (.int p1), .val (.int p2), .val (.int p3), .val (.int p4), .val (.int p5), .val (.ref b2), .val (.ref b5), .val (.ref b22), .val (.int (p5 &&& (1 : Int32))), .val (.long v43_0), .second, .val (.long v48_0), .second, .val (.int v53_0), .val (.int v99_0), .val (.int v72_0)] [(.long (2147483647 : Int64)), (.long v48_0)])) _
    refine XS.lcmp X99.here hx rfl (hb hby at_240) rfl ?_
    show Steps p.tables e below (T99.setTop (mkF m 241 #[.val (.int p0), .val (.int p1), .val (.int p2), .val (.int p3), .val (.int p4), .val (.int p5), .val (.ref b2), .val (.ref b5), .val (.ref b22), .val (.int (p5 &&& (1 : Int32))), .val (.long v43_0), .second, .val (.long v48_0), .second, .val (.int v53_0), .val (.int v99_0), .val (.int v72_0)] [(.int (lcmpW v48_0 (2147483647 : Int64)))])) _
    exact Steps.refl _)
  obtain ⟨T114, L114, v114_0, X114, e114, N114, hv114_0, S114⟩ : ∃ (T114 : State) (L114 : List Loc) (v114_0 : Int32), Stand p l e room_1 (s.setVm T27.vm) m #[(.int p0), (.int p1), (.int p2), (.int p3), (.int p4), (.int p5)] below meth c T114 L114 6 19 ∧ T114.heap = T40.heap ∧ Fr n0 L114 ∧ (if v48_0 < (2147483647 : Int64) then (if v99_0 = (0 : Int32) then (0 : Int32) else (if ((if ((v48_0 + (1 : Int64)).toInt32) < (if (p5 &&& (1 : Int32)) = (0 : Int32) then p0 else p2) then (0 : Int32) else (if (if (p5 &&& (1 : Int32)) = (0 : Int32) then p1 else p3) < ((v48_0 + (1 : Int64)).toInt32) then (0 : Int32) else (1 : Int32))) &&& 1) = (0 : Int32) then (1 : Int32) else (0 : Int32))) else v99_0) = v114_0 ∧ Steps p.tables e below (T99.setTop (mkF m 241 #[.val (.int p0), .val (.int p1), .val (.int p2), .val (.int p3), .val (.int p4), .val (.int p5), .val (.ref b2), .val (.ref b5), .val (.ref b22), .val (.int (p5 &&& (1 : Int32))), .val (.long v43_0), .second, .val (.long v48_0), .second, .val (.int v53_0), .val (.int v99_0), .val (.int v72_0)] [(.int (lcmpW v48_0 (2147483647 : Int64)))])) (T114.setTop (mkF m 271 #[.val (.int p0), .val (.int p1), .val (.int p2), .val (.int p3), .val (.int p4), .val (.int p5), .val (.ref b2), .val (.ref b5), .val (.ref b22), .val (.int (p5 &&& (1 : Int32))), .val (.long v43_0), .second, .val (.long v48_0), .second, .val (.int v53_0), .val (.int v114_0), .val (.int v72_0)] [])) := by
    have R114 : Steps p.tables e below (T99.setTop (mkF m 241 #[.val (.int p0), .val (.int p1), .val (.int p2), .val (.int p3), .val (.int p4), .val (.int p5), .val (.ref b2), .val (.ref b5), .val (.ref b22), .val (.int (p5 &&& (1 : Int32))), .val (.long v43_0), .second, .val (.long v48_0), .second, .val (.int v53_0), .val (.int v99_0), .val (.int v72_0)] [(.int (lcmpW v48_0 (2147483647 : Int64)))])) (T99.setTop (mkF m 241 #[.val (.int p0), .val (.int p1), .val (.int p2), .val (.int p3), .val (.int p4), .val (.int p5), .val (.ref b2), .val (.ref b5), .val (.ref b22), .val (.int (p5 &&& (1 : Int32))), .val (.long v43_0), .second, .val (.long v48_0), .second, .val (.int v53_0), .val (.int v99_0), .val (.int v72_0)] [(.int (lcmpW v48_0 (2147483647 : Int64)))])) := Steps.refl _
    by_cases hc241 : v48_0 < (2147483647 : Int64)
    · have K115 : Steps p.tables e below _ (T99.setTop (mkF m 246 #[.val (.int p0), .val (.int p1), .val (.int p2), .val (.int p3), .val (.int p4), .val (.int p5), .val (.ref b2), .val (.ref b5), .val (.ref b22), .val (.int (p5 &&& (1 : Int32))), .val (.long v43_0), .second, .val (.long v48_0), .second, .val (.int v53_0), .val (.int v99_0), .val (.int v72_0)] [(.int v99_0)])) := R114.trans (by
        show Steps p.tables e below (T99.setTop (mkF m 241 #[.val (.int p0), .val (.int p1), .val (.int p2), .val (.int p3), .val (.int p4), .val (.int p5), .val (.ref b2), .val (.ref b5), .val (.ref b22), .val (.int (p5 &&& (1 : Int32))), .val (.long v43_0), .second, .val (.long v48_0), .second, .val (.int v53_0), .val (.int v99_0), .val (.int v72_0)] [(.int (lcmpW v48_0 (2147483647 : Int64)))])) _
        refine XS.ifNo X99.here hx rfl (hb hby at_241) rfl ((if0 _ _).trans (tlt ((lw_lt v48_0 (2147483647 : Int64)).mpr hc241)).2.1) ?_
        show Steps p.tables e below (T99.setTop (mkF m 244 #[.val (.int p0), .val (.int p1), .val (.int p2), .val (.int p3), .val (.int p4), .val (.int p5), .val (.ref b2), .val (.ref b5), .val (.ref b22), .val (.int (p5 &&& (1 : Int32))), .val (.long v43_0), .second, .val (.long v48_0), .second, .val (.int v53_0), .val (.int v99_0), .val (.int v72_0)] [])) _
        refine XS.iload X99.here hx rfl (hb hby at_244) rfl ?_
        show Steps p.tables e below (T99.setTop (mkF m 246 #[.val (.int p0), .val (.int p1), .val (.int p2), .val (.int p3), .val (.int p4), .val (.int p5), .val (.ref b2), .val (.ref b5), .val (.ref b22), .val (.int (p5 &&& (1 : Int32))), .val (.long v43_0), .second, .val (.long v48_0), .second, .val (.int v53_0), .val (.int v99_0), .val (.int v72_0)] [(.int v99_0)])) _
        exact Steps.refl _)
      obtain ⟨T116, L116, v116_0, X116, e116, N116, hv116_0, S116⟩ : ∃ (T116 : State) (L116 : List Loc) (v116_0 : Int32), Stand p l e room_1 (s.setVm T27.vm) m #[(.int p0), (.int p1), (.int p2), (.int p3), (.int p4), (.int p5)] below meth c T116 L116 6 19 ∧ T116.heap = T40.heap ∧ Fr n0 L116 ∧ (if v99_0 = (0 : Int32) then (0 : Int32) else (if ((if ((v48_0 + (1 : Int64)).toInt32) < (if (p5 &&& (1 : Int32)) = (0 : Int32) then p0 else p2) then (0 : Int32) else (if (if (p5 &&& (1 : Int32)) = (0 : Int32) then p1 else p3) < ((v48_0 + (1 : Int64)).toInt32) then (0 : Int32) else (1 : Int32))) &&& 1) = (0 : Int32) then (1 : Int32) else (0 : Int32))) = v116_0 ∧ Steps p.tables e below (T99.setTop (mkF m 246 #[.val (.int p0), .val (.int p1), .val (.int p2), .val (.int p3), .val (.int p4), .val (.int p5), .val (.ref b2), .val (.ref b5), .val (.ref b22), .val (.int (p5 &&& (1 : Int32))), .val (.long v43_0), .second, .val (.long v48_0), .second, .val (.int v53_0), .val (.int v99_0), .val (.int v72_0)] [(.int v99_0)])) (T116.setTop (mkF m 269 #[.val (.int p0), .val (.int p1), .val (.int p2), .val (.int p3), .val (.int p4), .val (.int p5), .val (.ref b2), .val (.ref b5), .val (.ref b22), .val (.int (p5 &&& (1 : Int32))), .val (.long v43_0), .second, .val (.long v48_0), .second, .val (.int v53_0), .val (.int v99_0), .val (.int v72_0)] [(.int v116_0)])) := by
        have R116 : Steps p.tables e below (T99.setTop (mkF m 246 #[.val (.int p0), .val (.int p1), .val (.int p2), .val (.int p3), .val (.int p4), .val (.int p5), .val (.ref b2), .val (.ref b5), .val (.ref b22), .val (.int (p5 &&& (1 : Int32))), .val (.long v43_0), .second, .val (.long v48_0), .second, .val (.int v53_0), .val (.int v99_0), .val (.int v72_0)] [(.int v99_0)])) (T99.setTop (mkF m 246 #[.val (.int p0), .val (.int p1), .val (.int p2), .val (.int p3), .val (.int p4), .val (.int p5), .val (.ref b2), .val (.ref b5), .val (.ref b22), .val (.int (p5 &&& (1 : Int32))), .val (.long v43_0), .second, .val (.long v48_0), .second, .val (.int v53_0), .val (.int v99_0), .val (.int v72_0)] [(.int v99_0)])) := Steps.refl _
        by_cases hc246 : v99_0 = (0 : Int32)
        · have K117 : Steps p.tables e below _ (T99.setTop (mkF m 269 #[.val (.int p0), .val (.int p1), .val (.int p2), .val (.int p3), .val (.int p4), .val (.int p5), .val (.ref b2), .val (.ref b5), .val (.ref b22), .val (.int (p5 &&& (1 : Int32))), .val (.long v43_0), .second, .val (.long v48_0), .second, .val (.int v53_0), .val (.int v99_0), .val (.int v72_0)] [(.int (0 : Int32))])) := R116.trans (by
            show Steps p.tables e below (T99.setTop (mkF m 246 #[.val (.int p0), .val (.int p1), .val (.int p2), .val (.int p3), .val (.int p4), .val (.int p5), .val (.ref b2), .val (.ref b5), .val (.ref b22), .val (.int (p5 &&& (1 : Int32))), .val (.long v43_0), .second, .val (.long v48_0), .second, .val (.int v53_0), .val (.int v99_0), .val (.int v72_0)] [(.int v99_0)])) _
            refine XS.ifYes X99.here hx rfl (pc0 := 246) (pc' := 268) rfl (hb hby at_246) rfl ((if0 _ _).trans (teq hc246).1) (by decide) (by decide) ?_
            show Steps p.tables e below (T99.setTop (mkF m 268 #[.val (.int p0), .val (.int p1), .val (.int p2), .val (.int p3), .val (.int p4), .val (.int p5), .val (.ref b2), .val (.ref b5), .val (.ref b22), .val (.int (p5 &&& (1 : Int32))), .val (.long v43_0), .second, .val (.long v48_0), .second, .val (.int v53_0), .val (.int v99_0), .val (.int v72_0)] [])) _
            refine XS.iconst X99.here hx rfl (hb hby at_268) ?_
            show Steps p.tables e below (T99.setTop (mkF m 269 #[.val (.int p0), .val (.int p1), .val (.int p2), .val (.int p3), .val (.int p4), .val (.int p5), .val (.ref b2), .val (.ref b5), .val (.ref b22), .val (.int (p5 &&& (1 : Int32))), .val (.long v43_0), .second, .val (.long v48_0), .second, .val (.int v53_0), .val (.int v99_0), .val (.int v72_0)] [(.int (0 : Int32))])) _
            exact Steps.refl _)
          exact ⟨T99, _, (0 : Int32), X99, e99, N99, (by rw [if_pos hc246]), K117⟩
        · have K118 : Steps p.tables e below _ (T99.setTop (mkF m 258 #[.val (.int p0), .val (.int p1), .val (.int p2), .val (.int p3), .val (.int p4), .val (.int p5), .val (.ref b2), .val (.ref b5), .val (.ref b22), .val (.int (p5 &&& (1 : Int32))), .val (.long v43_0), .second, .val (.long v48_0), .second, .val (.int v53_0), .val (.int v99_0), .val (.int v72_0)] [(.int ((v48_0 + (1 : Int64)).toInt32)), (.int (p5 &&& (1 : Int32))), (.ref b22)])) := R116.trans (by
            show Steps p.tables e below (T99.setTop (mkF m 246 #[.val (.int p0), .val (.int p1), .val (.int p2), .val (.int p3), .val (.int p4), .val (.int p5), .val (.ref b2), .val (.ref b5), .val (.ref b22), .val (.int (p5 &&& (1 : Int32))), .val (.long v43_0), .second, .val (.long v48_0), .second, .val (.int v53_0), .val (.int v99_0), .val (.int v72_0)] [(.int v99_0)])) _
            refine XS.ifNo X99.here hx rfl (hb hby at_246) rfl ((if0 _ _).trans (feq hc246).1) ?_
            show Steps p.tables e below (T99.setTop (mkF m 249 #[.val (.int p0), .val (.int p1), .val (.int p2), .val (.int p3), .val (.int p4), .val (.int p5), .val (.ref b2), .val (.ref b5), .val (.ref b22), .val (.int (p5 &&& (1 : Int32))), .val (.long v43_0), .second, .val (.long v48_0), .second, .val (.int v53_0), .val (.int v99_0), .val (.int v72_0)] [])) _
            refine XS.aload X99.here hx rfl (hb hby at_249) rfl rfl ?_
            show Steps p.tables e below (T99.setTop (mkF m 251 #[.val (.int p0), .val (.int p1), .val (.int p2), .val (.int p3), .val (.int p4), .val (.int p5), .val (.ref b2), .val (.ref b5), .val (.ref b22), .val (.int (p5 &&& (1 : Int32))), .val (.long v43_0), .second, .val (.long v48_0), .second, .val (.int v53_0), .val (.int v99_0), .val (.int v72_0)] [(.ref b22)])) _
            refine XS.iload X99.here hx rfl (hb hby at_251) rfl ?_
            show Steps p.tables e below (T99.setTop (mkF m 253 #[.val (.int p0), .val (.int p1), .val (.int p2), .val (.int p3), .val (.int p4), .val (.int p5), .val (.ref b2), .val (.ref b5), .val (.ref b22), .val (.int (p5 &&& (1 : Int32))), .val (.long v43_0), .second, .val (.long v48_0), .second, .val (.int v53_0), .val (.int v99_0), .val (.int v72_0)] [(.int (p5 &&& (1 : Int32))), (.ref b22)])) _
            refine XS.lload X99.here hx rfl (hb hby at_253) rfl ?_
            show Steps p.tables e below (T99.setTop (mkF m 255 #[.val (.int p0), .val (.int p1), .val (.int p2), .val (.int p3), .val (.int p4), .val (.int p5), .val (.ref b2), .val (.ref b5), .val (.ref b22), .val (.int (p5 &&& (1 : Int32))), .val (.long v43_0), .second, .val (.long v48_0), .second, .val (.int v53_0), .val (.int v99_0), .val (.int v72_0)] [(.long v48_0), (.int (p5 &&& (1 : Int32))), (.ref b22)])) _
            refine XS.lconst X99.here hx rfl (hb hby at_255) ?_
            show Steps p.tables e below (T99.setTop (mkF m 256 #[.val (.int p0), .val (.int p1), .val (.int p2), .val (.int p3), .val (.int p4), .val (.int p5), .val (.ref b2), .val (.ref b5), .val (.ref b22), .val (.int (p5 &&& (1 : Int32))), .val (.long v43_0), .second, .val (.long v48_0), .second, .val (.int v53_0), .val (.int v99_0), .val (.int v72_0)] [(.long (1 : Int64)), (.long v48_0), (.int (p5 &&& (1 : Int32))), (.ref b22)])) _
            refine XS.ladd X99.here hx rfl (hb hby at_256) rfl ?_
            show Steps p.tables e below (T99.setTop (mkF m 257 #[.val (.int p0), .val (.int p1), .val (.int p2), .val (.int p3), .val (.int p4), .val (.int p5), .val (.ref b2), .val (.ref b5), .val (.ref b22), .val (.int (p5 &&& (1 : Int32))), .val (.long v43_0), .second, .val (.long v48_0), .second, .val (.int v53_0), .val (.int v99_0), .val (.int v72_0)] [(.long (v48_0 + (1 : Int64))), (.int (p5 &&& (1 : Int32))), (.ref b22)])) _
            refine XS.l2i X99.here hx rfl (hb hby at_257) rfl ?_
            show Steps p.tables e below (T99.setTop (mkF m 258 #[.val (.int p0), .val (.int p1), .val (.int p2), .val (.int p3), .val (.int p4), .val (.int p5), .val (.ref b2), .val (.ref b5), .val (.ref b22), .val (.int (p5 &&& (1 : Int32))), .val (.long v43_0), .second, .val (.long v48_0), .second, .val (.int v53_0), .val (.int v99_0), .val (.int v72_0)] [(.int ((v48_0 + (1 : Int64)).toInt32)), (.int (p5 &&& (1 : Int32))), (.ref b22)])) _
            exact Steps.refl _)
          obtain ⟨cq119, kq119, q119a, q119b, q119c⟩ := isOf hZ e99 Q40_0
          obtain ⟨_, _, ⟨T119, L119, k119, n119⟩, -, X119, ⟨Lc119, hQ119, l119, y119, z119⟩, st119⟩ := X99.virtualBack hx (y := (⟨"com/example/futures_from_states/futuresfromstates/model/ArrayVariable", "inBounds", "(II)Z"⟩ : MethodName)) (z := (⟨"com/example/futures_from_states/futuresfromstates/model/ArrayVariable", "inBounds", "(II)Z"⟩ : MethodName)) hown (mvT hZ (hw _ (List.mem_of_getElem? (i := 28) rfl))) (mvT hZ (hw _ (List.mem_of_getElem? (i := 29) rfl))) (notFace_of_selects (args := #[]) (mvT hZ (hw _ (List.mem_of_getElem? (i := 31) rfl)))) (mvT hZ (hw _ (List.mem_of_getElem? (i := 31) rfl))) (mvT hZ (hw _ (List.mem_of_getElem? (i := 30) rfl))) (by decide) (backOf (W := 0) (rm3 l Z a0 hw [] b22 (p5 &&& (1 : Int32)) ((v48_0 + (1 : Int64)).toInt32) b2 b5 k2 k5 ([(.int p0), (.int p2)]) ([(.int p1), (.int p3)]) (if (p5 &&& (1 : Int32)) = (0 : Int32) then p0 else p2) (if (p5 &&& (1 : Int32)) = (0 : Int32) then p1 else p3) T40.heap n0 Z_60 Q40_2 Q40_3 V_61 V_62 (own_inb p5) (own_sel _ _ _) (own_sel _ _ _)) hZ (hw _ (List.mem_of_getElem? (i := 32) rfl)) (hw _ (List.mem_of_getElem? (i := 3) rfl)) (by decide) (by decide)) q119a q119c (g := (mkF m 258 #[.val (.int p0), .val (.int p1), .val (.int p2), .val (.int p3), .val (.int p4), .val (.int p5), .val (.ref b2), .val (.ref b5), .val (.ref b22), .val (.int (p5 &&& (1 : Int32))), .val (.long v43_0), .second, .val (.long v48_0), .second, .val (.int v53_0), .val (.int v99_0), .val (.int v72_0)] [(.int ((v48_0 + (1 : Int64)).toInt32)), (.int (p5 &&& (1 : Int32))), (.ref b22)])) rfl (by rw [hml]; rfl) K118 (argsL := [(.int (p5 &&& (1 : Int32))), (.int ((v48_0 + (1 : Int64)).toInt32))]) (rest := []) (lenOf pd_1 rfl) rfl (by show 2 * 0 + _ ≤ _; exact Nat.le_of_eq rfl) (hb hby at_258) (fun _ _ => ⟨rfl, e99, (by decide : 6 + 0 ≤ _), (by decide : 19 + 0 ≤ _)⟩)
          dsimp only [Pt.U, Pt.locs, Pt.cells, Pt.slots] at X119 l119 y119 z119 st119 hQ119
          subst l119 y119 z119
          obtain ⟨rfl, N119, eh119⟩ := hQ119
          have N119' := Fr.app N99 N119
          have K121 : Steps p.tables e below _ (T119.setTop (mkF m 261 #[.val (.int p0), .val (.int p1), .val (.int p2), .val (.int p3), .val (.int p4), .val (.int p5), .val (.ref b2), .val (.ref b5), .val (.ref b22), .val (.int (p5 &&& (1 : Int32))), .val (.long v43_0), .second, .val (.long v48_0), .second, .val (.int v53_0), .val (.int v99_0), .val (.int v72_0)] [(.int ((if ((v48_0 + (1 : Int64)).toInt32) < (if (p5 &&& (1 : Int32)) = (0 : Int32) then p0 else p2) then (0 : Int32) else (if (if (p5 &&& (1 : Int32)) = (0 : Int32) then p1 else p3) < ((v48_0 + (1 : Int64)).toInt32) then (0 : Int32) else (1 : Int32))) &&& 1))])) := st119
          obtain ⟨r120, hr120⟩ : ∃ z : Int32, ((if ((v48_0 + (1 : Int64)).toInt32) < (if (p5 &&& (1 : Int32)) = (0 : Int32) then p0 else p2) then (0 : Int32) else (if (if (p5 &&& (1 : Int32)) = (0 : Int32) then p1 else p3) < ((v48_0 + (1 : Int64)).toInt32) then (0 : Int32) else (1 : Int32))) &&& 1) = z := ⟨_, rfl⟩
          rw [hr120] at K121
          by_cases hc261 : r120 = (0 : Int32)
          · have K122 : Steps p.tables e below _ (T119.setTop (mkF m 269 #[.val (.int p0), .val (.int p1), .val (.int p2), .val (.int p3), .val (.int p4), .val (.int p5), .val (.ref b2), .val (.ref b5), .val (.ref b22), .val (.int (p5 &&& (1 : Int32))), .val (.long v43_0), .second, .val (.long v48_0), .second, .val (.int v53_0), .val (.int v99_0), .val (.int v72_0)] [(.int (1 : Int32))])) := K121.trans (by
              show Steps p.tables e below (T119.setTop (mkF m 261 #[.val (.int p0), .val (.int p1), .val (.int p2), .val (.int p3), .val (.int p4), .val (.int p5), .val (.ref b2), .val (.ref b5), .val (.ref b22), .val (.int (p5 &&& (1 : Int32))), .val (.long v43_0), .second, .val (.long v48_0), .second, .val (.int v53_0), .val (.int v99_0), .val (.int v72_0)] [(.int r120)])) _
              refine XS.ifNo X119.here hx rfl (hb hby at_261) rfl ((if0 _ _).trans (teq hc261).2) ?_
              show Steps p.tables e below (T119.setTop (mkF m 264 #[.val (.int p0), .val (.int p1), .val (.int p2), .val (.int p3), .val (.int p4), .val (.int p5), .val (.ref b2), .val (.ref b5), .val (.ref b22), .val (.int (p5 &&& (1 : Int32))), .val (.long v43_0), .second, .val (.long v48_0), .second, .val (.int v53_0), .val (.int v99_0), .val (.int v72_0)] [])) _
              refine XS.iconst X119.here hx rfl (hb hby at_264) ?_
              show Steps p.tables e below (T119.setTop (mkF m 265 #[.val (.int p0), .val (.int p1), .val (.int p2), .val (.int p3), .val (.int p4), .val (.int p5), .val (.ref b2), .val (.ref b5), .val (.ref b22), .val (.int (p5 &&& (1 : Int32))), .val (.long v43_0), .second, .val (.long v48_0), .second, .val (.int v53_0), .val (.int v99_0), .val (.int v72_0)] [(.int (1 : Int32))])) _
              refine XS.goto X119.here hx rfl (pc0 := 265) (pc' := 269) rfl (hb hby at_265) (by decide) (by decide) ?_
              show Steps p.tables e below (T119.setTop (mkF m 269 #[.val (.int p0), .val (.int p1), .val (.int p2), .val (.int p3), .val (.int p4), .val (.int p5), .val (.ref b2), .val (.ref b5), .val (.ref b22), .val (.int (p5 &&& (1 : Int32))), .val (.long v43_0), .second, .val (.long v48_0), .second, .val (.int v53_0), .val (.int v99_0), .val (.int v72_0)] [(.int (1 : Int32))])) _
              exact Steps.refl _)
            subst hr120
            exact ⟨T119, _, (1 : Int32), X119, eh119, N119', (by rw [if_neg hc246, if_pos hc261]), K122⟩
          · have K123 : Steps p.tables e below _ (T119.setTop (mkF m 269 #[.val (.int p0), .val (.int p1), .val (.int p2), .val (.int p3), .val (.int p4), .val (.int p5), .val (.ref b2), .val (.ref b5), .val (.ref b22), .val (.int (p5 &&& (1 : Int32))), .val (.long v43_0), .second, .val (.long v48_0), .second, .val (.int v53_0), .val (.int v99_0), .val (.int v72_0)] [(.int (0 : Int32))])) := K121.trans (by
              show Steps p.tables e below (T119.setTop (mkF m 261 #[.val (.int p0), .val (.int p1), .val (.int p2), .val (.int p3), .val (.int p4), .val (.int p5), .val (.ref b2), .val (.ref b5), .val (.ref b22), .val (.int (p5 &&& (1 : Int32))), .val (.long v43_0), .second, .val (.long v48_0), .second, .val (.int v53_0), .val (.int v99_0), .val (.int v72_0)] [(.int r120)])) _
              refine XS.ifYes X119.here hx rfl (pc0 := 261) (pc' := 268) rfl (hb hby at_261) rfl ((if0 _ _).trans (feq hc261).2) (by decide) (by decide) ?_
              show Steps p.tables e below (T119.setTop (mkF m 268 #[.val (.int p0), .val (.int p1), .val (.int p2), .val (.int p3), .val (.int p4), .val (.int p5), .val (.ref b2), .val (.ref b5), .val (.ref b22), .val (.int (p5 &&& (1 : Int32))), .val (.long v43_0), .second, .val (.long v48_0), .second, .val (.int v53_0), .val (.int v99_0), .val (.int v72_0)] [])) _
              refine XS.iconst X119.here hx rfl (hb hby at_268) ?_
              show Steps p.tables e below (T119.setTop (mkF m 269 #[.val (.int p0), .val (.int p1), .val (.int p2), .val (.int p3), .val (.int p4), .val (.int p5), .val (.ref b2), .val (.ref b5), .val (.ref b22), .val (.int (p5 &&& (1 : Int32))), .val (.long v43_0), .second, .val (.long v48_0), .second, .val (.int v53_0), .val (.int v99_0), .val (.int v72_0)] [(.int (0 : Int32))])) _
              exact Steps.refl _)
            subst hr120
            exact ⟨T119, _, (0 : Int32), X119, eh119, N119', (by rw [if_neg hc246, if_neg hc261]), K123⟩
      have K124 := K115.trans S116
      have K125 : Steps p.tables e below _ (T116.setTop (mkF m 271 #[.val (.int p0), .val (.int p1), .val (.int p2), .val (.int p3), .val (.int p4), .val (.int p5), .val (.ref b2), .val (.ref b5), .val (.ref b22), .val (.int (p5 &&& (1 : Int32))), .val (.long v43_0), .second, .val (.long v48_0), .second, .val (.int v53_0), .val (.int v116_0), .val (.int v72_0)] [])) := K124.trans (by
        show Steps p.tables e below (T116.setTop (mkF m 269 #[.val (.int p0), .val (.int p1), .val (.int p2), .val (.int p3), .val (.int p4), .val (.int p5), .val (.ref b2), .val (.ref b5), .val (.ref b22), .val (.int (p5 &&& (1 : Int32))), .val (.long v43_0), .second, .val (.long v48_0), .second, .val (.int v53_0), .val (.int v99_0), .val (.int v72_0)] [(.int v116_0)])) _
        refine XS.istore X116.here hx rfl (hb hby at_269) rfl (l' := #[.val (.int p0), .val (.int p1), .val (.int p2), .val (.int p3), .val (.int p4), .val (.int p5), .val (.ref b2), .val (.ref b5), .val (.ref b22), .val (.int (p5 &&& (1 : Int32))), .val (.long v43_0), .second, .val (.long v48_0), .second, .val (.int v53_0), .val (.int v116_0), .val (.int v72_0)]) rfl ?_
        show Steps p.tables e below (T116.setTop (mkF m 271 #[.val (.int p0), .val (.int p1), .val (.int p2), .val (.int p3), .val (.int p4), .val (.int p5), .val (.ref b2), .val (.ref b5), .val (.ref b22), .val (.int (p5 &&& (1 : Int32))), .val (.long v43_0), .second, .val (.long v48_0), .second, .val (.int v53_0), .val (.int v116_0), .val (.int v72_0)] [])) _
        exact Steps.refl _)
      subst hv116_0
      exact ⟨T116, _, (if v99_0 = (0 : Int32) then (0 : Int32) else (if ((if ((v48_0 + (1 : Int64)).toInt32) < (if (p5 &&& (1 : Int32)) = (0 : Int32) then p0 else p2) then (0 : Int32) else (if (if (p5 &&& (1 : Int32)) = (0 : Int32) then p1 else p3) < ((v48_0 + (1 : Int64)).toInt32) then (0 : Int32) else (1 : Int32))) &&& 1) = (0 : Int32) then (1 : Int32) else (0 : Int32))), X116, e116, N116, (by rw [if_pos hc241]), K125⟩
    · have K126 : Steps p.tables e below _ (T99.setTop (mkF m 271 #[.val (.int p0), .val (.int p1), .val (.int p2), .val (.int p3), .val (.int p4), .val (.int p5), .val (.ref b2), .val (.ref b5), .val (.ref b22), .val (.int (p5 &&& (1 : Int32))), .val (.long v43_0), .second, .val (.long v48_0), .second, .val (.int v53_0), .val (.int v99_0), .val (.int v72_0)] [])) := R114.trans (by
        show Steps p.tables e below (T99.setTop (mkF m 241 #[.val (.int p0), .val (.int p1), .val (.int p2), .val (.int p3), .val (.int p4), .val (.int p5), .val (.ref b2), .val (.ref b5), .val (.ref b22), .val (.int (p5 &&& (1 : Int32))), .val (.long v43_0), .second, .val (.long v48_0), .second, .val (.int v53_0), .val (.int v99_0), .val (.int v72_0)] [(.int (lcmpW v48_0 (2147483647 : Int64)))])) _
        refine XS.ifYes X99.here hx rfl (pc0 := 241) (pc' := 271) rfl (hb hby at_241) rfl ((if0 _ _).trans (flt (fun z => hc241 ((lw_lt v48_0 (2147483647 : Int64)).mp z))).2.1) (by decide) (by decide) ?_
        show Steps p.tables e below (T99.setTop (mkF m 271 #[.val (.int p0), .val (.int p1), .val (.int p2), .val (.int p3), .val (.int p4), .val (.int p5), .val (.ref b2), .val (.ref b5), .val (.ref b22), .val (.int (p5 &&& (1 : Int32))), .val (.long v43_0), .second, .val (.long v48_0), .second, .val (.int v53_0), .val (.int v99_0), .val (.int v72_0)] [])) _
        exact Steps.refl _)
      exact ⟨T99, _, v99_0, X99, e99, N99, (by rw [if_neg hc241]), K126⟩
  have K127 := K113.trans S114
  have K128 : Steps p.tables e below _ (T114.setTop (mkF m 273 #[.val (.int p0), .val (.int p1), .val (.int p2), .val (.int p3), .val (.int p4), .val (.int p5), .val (.ref b2), .val (.ref b5), .val (.ref b22), .val (.int (p5 &&& (1 : Int32))), .val (.long v43_0), .second, .val (.long v48_0), .second, .val (.int v53_0), .val (.int v114_0), .val (.int v72_0)] [(.int v114_0)])) := K127.trans (by
    show Steps p.tables e below (T114.setTop (mkF m 271 #[.val (.int p0), .val (.int p1), .val (.int p2), .val (.int p3), .val (.int p4), .val (.int p5), .val (.ref b2), .val (.ref b5), .val (.ref b22), .val (.int (p5 &&& (1 : Int32))), .val (.long v43_0), .second, .val (.long v48_0), .second, .val (.int v53_0), .val (.int v114_0), .val (.int v72_0)] [])) _
    refine XS.iload X114.here hx rfl (hb hby at_271) rfl ?_
    show Steps p.tables e below (T114.setTop (mkF m 273 #[.val (.int p0), .val (.int p1), .val (.int p2), .val (.int p3), .val (.int p4), .val (.int p5), .val (.ref b2), .val (.ref b5), .val (.ref b22), .val (.int (p5 &&& (1 : Int32))), .val (.long v43_0), .second, .val (.long v48_0), .second, .val (.int v53_0), .val (.int v114_0), .val (.int v72_0)] [(.int v114_0)])) _
    exact Steps.refl _)
  have hone : (v114_0 &&& 1) = (1 : Int32) := own_law_0 p0 p1 p2 p3 p4 p5 v43_0 v48_0 v53_0 r64 v67_0 v72_0 v77_0 v88_0 v99_0 v114_0 hv43_0 hv48_0 hv53_0 hr64 hv67_0 hv72_0 hv77_0 hv88_0 hv99_0 hv114_0
  have Y_129 : kk27 ≤ T40.heap.size := (Nat.le_trans hk27 Kp40.1)
  obtain ⟨fs, hr, hrun, hended, hEW⟩ := X114.leaveW hS27 (by rw [e114]; exact Y_129) (v := some (.int (v114_0 &&& 1))) (fun h => by rw [Bd.returns] at h; cases h)
  exact ⟨_, _, K128.trans (retN X114 hx (t := .boolean) Bd.returns (by simp) (hb hby at_273) hr), hrun, hended, _, _, rfl, ⟨by rw [hone], N114⟩, ⟨_, rfl⟩, hEW.2.1, hEW.2.2.1, hEW.2.2.2.mono (by decide) (by decide)⟩
set_option maxRecDepth 65536 in
set_option maxHeartbeats 40000000 in
theorem comes_1 {Post : Tables → Env → Array Value → State → Outcome → State → Prop} (hpost : ∀ tb e args s v u, (limb_1_1.after args s (.returned v) u = true ∧ limb_1_2.after args s (.returned v) u = true ∧ True) → ReturnedEndW s (.returned v) u (Jvm.fieldLocs frame_1_writes args s ++ Jvm.arrayLocs frame_1_arrays args s ++ Jvm.staticLocs frame_1_statics s) 24 1152 → Post tb e args s (.returned v) u) :
    ArmFor flags0 classFile x code maxLocals ret World_1 tables_1 room_1 Calls_1 rest_1 Pre_1 Post := by
  intro l hfl _ _ p e ha hc hk s m args below hf hA hF happ hP
  obtain ⟨hcalls, hrest, hpre⟩ := hP
  obtain ⟨-, -, -, hnamed, -, -, -, hat⟩ := (Spec.applies_iff hf).mp happ
  obtain ⟨hg, hn⟩ := and_e (Cond.before_iff.mp (show (Jvm.Cond.and given_1 narrow_1).before args s = true from hpre))
  obtain ⟨g1, g2⟩ := and_e hg
  obtain ⟨g3, g4⟩ := and_e g2
  obtain ⟨g5, g6⟩ := and_e g4
  obtain ⟨g7, g8⟩ := and_e g6
  obtain ⟨g9, g10⟩ := and_e g8
  obtain ⟨g11, g12⟩ := and_e g10
  obtain ⟨w0, w1, w2, w3, w4, w5, rfl⟩ : ∃ w0 w1 w2 w3 w4 w5 : Value, args = #[w0, w1, w2, w3, w4, w5] := by
    have hs : args.size = 6 := by simpa [Cond.value, given_1] using g1
    obtain ⟨L⟩ := args
    match L, hs with
    | [w0, w1, w2, w3, w4, w5], _ => exact ⟨w0, w1, w2, w3, w4, w5, rfl⟩
  have hw := fun d (hd : d ∈ tables_1) => atoms_spec (ws := Jvm.Cond.code x code maxLocals ret :: tables_1) hat d (List.mem_cons_of_mem _ hd)
  obtain ⟨i0, ei0⟩ := is_v g3
  obtain rfl : w0 = (.int i0) := Option.some.inj ei0
  obtain ⟨i1, ei1⟩ := is_v g5
  obtain rfl : w1 = (.int i1) := Option.some.inj ei1
  obtain ⟨i2, ei2⟩ := is_v g7
  obtain rfl : w2 = (.int i2) := Option.some.inj ei2
  obtain ⟨i3, ei3⟩ := is_v g9
  obtain rfl : w3 = (.int i3) := Option.some.inj ei3
  obtain ⟨i4, ei4⟩ := is_v g11
  obtain rfl : w4 = (.int i4) := Option.some.inj ei4
  obtain ⟨i5, ei5⟩ := is_v g12
  obtain rfl : w5 = (.int i5) := Option.some.inj ei5
  obtain ⟨n, o, h1, h2, h3, _, L, rfl, ⟨rfl, N⟩, hq⟩ := rm0 l s _ hw tables_1 i0 i1 i2 i3 i4 i5 s.heap s.heap.size (Nat.le_refl _) p e ha hc hk s m _ below hf ((Spec.applies_iff_loose hf).mp happ).1 ⟨rfl, State.Warmed39.refl s, rfl⟩ trivial
  refine ⟨n, _, h1, h2, h3, hpost _ _ _ _ _ _ ⟨Cond.after_iff.mpr rfl, Cond.after_iff.mpr (eq_i res_at (Term.int_eval (1)) rfl), trivial⟩ ⟨hq.1, hq.2.1, hq.2.2.1, (hq.2.2.2.sift fun y hy => Or.inr (N y hy)).mono (by decide) (by decide)⟩⟩
theorem main_1_1 : Claimed_1_1 := comes_1 fun _ _ _ _ _ _ h hF => ⟨h.1, hF⟩
theorem main_1_2 : Claimed_1_2 := comes_1 fun _ _ _ _ _ _ h hF => ⟨h.2.1, hF⟩
end Jvm.Pilot.@@N@@
namespace Jvm.Pilot.@@N@@
open Jvm Jvm.ClassFile Sem Op Lib Jvm.Free Jvm.Stand Jvm.Pilot.@@N@@.Jvm.D
/-! MADE BY PROGRAM (witnessworld.py) out of the Statement's table words and the real class files: 14 classes; the members and pool entries that the words name. The judged class is class 1, her method 1. -/
namespace start1
open Jvm.ClassFile
def u (s : String) : CpInfo := .utf8 (stringToUtf16 s)
/-- a pool by its gaps: so many unusable entries, then the entry; so many at the end -/
def gap : Nat → List CpInfo → List CpInfo
  | 0, r => r
  | n + 1, r => .unusable :: gap n r
def poolList (es : List (Nat × CpInfo)) (last : Nat) : List CpInfo := es.foldr (fun e r => gap e.1 (e.2 :: r)) (gap last [])
def pool (es : List (Nat × CpInfo)) (last : Nat) : Array CpInfo := ⟨poolList es last⟩
def fileOf (pool : Array CpInfo) (this : Nat) (attrs : Array Attribute := #[]) (ms : Array MethodInfo := #[]) (fl : Nat := 33) (sup : Nat := 0) (ifs : Array Nat := #[]) (fds : Array FieldInfo := #[]) : ClassFile where
  minorVersion := 0
  majorVersion := 65
  constantPool := pool
  accessFlags := fl
  thisClass := this
  superClass := sup
  interfaces := ifs
  fields := fds
  methods := ms
  attributes := attrs
def plain (name : String) (sup : Option ClassId) : Class where
  name := name
  kind := .ordinary
  loader := none
  accessFlags := 33
  super := sup
  interfaces := #[]
  cf := none
  fields := #[]
  methods := #[]
  instanceTypes := #[]
  staticTypes := #[]
  resolved := #[]
  callSites := []
  init := .initialized
  statics := none
  mirror := none

def pool0 : Array CpInfo := pool [(5, u "<init>"), (0, u "()V"), (1, .class_ 10), (1, u "java/lang/Object")] 113

def k0c0 : Code := { maxStack := 0, maxLocals := 1, code := object_method_1_code, exceptionTable := #[], attributes := #[] }
def k0m0 : Method := { name := "<init>", desc := "()V", sig := { parameters := [], returnType := none }, accessFlags := 1, code := some k0c0 }
/-- java/lang/Object -/
def k0 : Class := { plain "java/lang/Object" none with
  accessFlags := 33
  interfaces := #[]
  cf := some (fileOf pool0 8 #[] #[{ accessFlags := 1, nameIndex := 5, descriptorIndex := 6, attributes := #[] }] 33 0 #[] #[])
  fields := #[]
  methods := #[k0m0]
  instanceTypes := #[]
  staticTypes := #[]
  resolved := Array.replicate 124 none
  statics := none }

def pool1 : Array CpInfo := pool [(2, .class_ 4), (1, u "java/lang/Object"), (0, u "<init>"), (0, u "()V"), (0, .class_ 8), (0, u "com/example/futures_from_states/futuresfromstates/model/ArrayVariable"), (0, .string 10), (0, u "a"), (0, .methodref 7 12), (0, .nameAndType 5 13), (0, u "(Ljava/lang/String;[I[II)V"), (0, .methodref 7 15), (0, .nameAndType 16 17), (0, u "inBounds"), (0, u "(II)Z"), (2, .long 18446744071562067968), (1, .long 2147483647), (1, .class_ 25), (0, u "com/example/futures_from_states/futuresfromstates/model/ArrayVariableInBoundsPinLaw"), (2, u "law"), (0, u "(IIIIII)Z")] 5

def k1m0 : Method := { name := "<init>", desc := "()V", sig := { parameters := [], returnType := none }, accessFlags := 1, code := none }
def k1c1 : Code := { maxStack := 6, maxLocals := 17, code := code, exceptionTable := #[], attributes := #[] }
def k1m1 : Method := { name := "law", desc := "(IIIIII)Z", sig := { parameters := [.int, .int, .int, .int, .int, .int], returnType := some .boolean }, accessFlags := 9, code := some k1c1 }
/-- com/example/futures_from_states/futuresfromstates/model/ArrayVariableInBoundsPinLaw -/
def k1 : Class := { plain "com/example/futures_from_states/futuresfromstates/model/ArrayVariableInBoundsPinLaw" (some 0) with
  accessFlags := 49
  interfaces := #[]
  cf := some (fileOf pool1 24 #[] #[{ accessFlags := 1, nameIndex := 5, descriptorIndex := 6, attributes := #[] }, { accessFlags := 9, nameIndex := 28, descriptorIndex := 29, attributes := #[] }] 49 2 #[] #[])
  fields := #[]
  methods := #[k1m0, k1m1]
  instanceTypes := #[]
  staticTypes := #[]
  resolved := Array.replicate 35 none
  statics := none }

def pool2 : Array CpInfo := pool [(1, .methodref 2 3), (0, .class_ 4), (0, .nameAndType 5 6), (0, u "java/lang/Object"), (0, u "<init>"), (0, u "()V"), (0, .fieldref 8 9), (0, .class_ 10), (0, .nameAndType 11 12), (0, u "com/example/futures_from_states/futuresfromstates/model/ArrayVariable"), (0, u "name"), (0, u "Ljava/lang/String;"), (0, .fieldref 8 14), (0, .nameAndType 15 16), (0, u "lows"), (0, u "[I"), (0, .fieldref 8 18), (0, .nameAndType 19 16), (0, u "highs"), (0, .fieldref 8 21), (0, .nameAndType 22 23), (0, u "firstSlot"), (0, u "I"), (0, .fieldref 8 25), (0, .nameAndType 26 16), (0, u "strides"), (24, u "(Ljava/lang/String;[I[II)V"), (8, u "inBounds"), (0, u "(II)Z")] 22

def k2c0 : Code := { maxStack := 4, maxLocals := 7, code := prog_47_method_1_code, exceptionTable := #[], attributes := #[] }
def k2m0 : Method := { name := "<init>", desc := "(Ljava/lang/String;[I[II)V", sig := { parameters := [(.object "java/lang/String"), (.array .int), (.array .int), .int], returnType := none }, accessFlags := 0, code := some k2c0 }
def k2c1 : Code := { maxStack := 3, maxLocals := 3, code := prog_47_method_4_code, exceptionTable := #[], attributes := #[] }
def k2m1 : Method := { name := "inBounds", desc := "(II)Z", sig := { parameters := [.int, .int], returnType := some .boolean }, accessFlags := 0, code := some k2c1 }
/-- com/example/futures_from_states/futuresfromstates/model/ArrayVariable -/
def k2 : Class := { plain "com/example/futures_from_states/futuresfromstates/model/ArrayVariable" (some 0) with
  accessFlags := 32
  interfaces := #[]
  cf := some (fileOf pool2 8 #[] #[{ accessFlags := 0, nameIndex := 5, descriptorIndex := 51, attributes := #[] }, { accessFlags := 0, nameIndex := 60, descriptorIndex := 61, attributes := #[] }] 32 2 #[] #[{ accessFlags := 18, nameIndex := 11, descriptorIndex := 12, attributes := #[] }, { accessFlags := 18, nameIndex := 15, descriptorIndex := 16, attributes := #[] }, { accessFlags := 18, nameIndex := 19, descriptorIndex := 16, attributes := #[] }, { accessFlags := 18, nameIndex := 26, descriptorIndex := 16, attributes := #[] }, { accessFlags := 18, nameIndex := 22, descriptorIndex := 23, attributes := #[] }])
  fields := #[{ name := "name", type := (.object "java/lang/String"), accessFlags := 18, slot := 0, constantValue := 0 }, { name := "lows", type := (.array .int), accessFlags := 18, slot := 1, constantValue := 0 }, { name := "highs", type := (.array .int), accessFlags := 18, slot := 2, constantValue := 0 }, { name := "strides", type := (.array .int), accessFlags := 18, slot := 3, constantValue := 0 }, { name := "firstSlot", type := .int, accessFlags := 18, slot := 4, constantValue := 0 }]
  methods := #[k2m0, k2m1]
  instanceTypes := #[(.object "java/lang/String"), (.array .int), (.array .int), (.array .int), .int]
  staticTypes := #[]
  resolved := Array.replicate 84 none
  statics := none }

def pool3 : Array CpInfo := pool [(1, .class_ 2), (0, u "java/io/Serializable"), (0, .class_ 4), (0, u "java/lang/Object")] 2

/-- java/io/Serializable -/
def k3 : Class := { plain "java/io/Serializable" (some 0) with
  accessFlags := 1537
  interfaces := #[]
  cf := some (fileOf pool3 1 #[] #[] 1537 3 #[] #[])
  fields := #[]
  methods := #[]
  instanceTypes := #[]
  staticTypes := #[]
  resolved := Array.replicate 7 none
  statics := none }

def pool4 : Array CpInfo := pool [(1, .class_ 2), (0, u "java/lang/Comparable"), (0, .class_ 4), (0, u "java/lang/Object")] 7

/-- java/lang/Comparable -/
def k4 : Class := { plain "java/lang/Comparable" (some 0) with
  accessFlags := 1537
  interfaces := #[]
  cf := some (fileOf pool4 1 #[] #[] 1537 3 #[] #[])
  fields := #[]
  methods := #[]
  instanceTypes := #[]
  staticTypes := #[]
  resolved := Array.replicate 12 none
  statics := none }

def pool5 : Array CpInfo := pool [(2, .class_ 4), (1, u "java/lang/CharSequence"), (42, .class_ 48), (0, u "java/lang/CharSequence$1CodePointIterator"), (10, .class_ 60), (0, u "java/lang/CharSequence$1CharIterator"), (5, .class_ 67), (0, u "java/lang/Object")] 63

/-- java/lang/CharSequence -/
def k5 : Class := { plain "java/lang/CharSequence" (some 0) with
  accessFlags := 1537
  interfaces := #[]
  cf := some (fileOf pool5 2 #[.nestMembers #[47, 59]] #[] 1537 66 #[] #[])
  fields := #[]
  methods := #[]
  instanceTypes := #[]
  staticTypes := #[]
  resolved := Array.replicate 131 none
  statics := none }

def pool6 : Array CpInfo := pool [(1, .class_ 2), (0, u "java/lang/constant/Constable"), (0, .class_ 4), (0, u "java/lang/Object")] 6

/-- java/lang/constant/Constable -/
def k6 : Class := { plain "java/lang/constant/Constable" (some 0) with
  accessFlags := 1537
  interfaces := #[]
  cf := some (fileOf pool6 1 #[] #[] 1537 3 #[] #[])
  fields := #[]
  methods := #[]
  instanceTypes := #[]
  staticTypes := #[]
  resolved := Array.replicate 11 none
  statics := none }

def pool7 : Array CpInfo := pool [(1, .class_ 2), (0, u "java/lang/constant/ConstantDesc"), (0, .class_ 4), (0, u "java/lang/Object")] 32

/-- java/lang/constant/ConstantDesc -/
def k7 : Class := { plain "java/lang/constant/ConstantDesc" (some 0) with
  accessFlags := 1537
  interfaces := #[]
  cf := some (fileOf pool7 1 #[] #[] 1537 3 #[] #[])
  fields := #[]
  methods := #[]
  instanceTypes := #[]
  staticTypes := #[]
  resolved := Array.replicate 37 none
  statics := none }

def pool8 : Array CpInfo := pool [(2, .class_ 4), (1, u "java/lang/Object"), (0, u "<init>"), (0, u "()V"), (3, .class_ 12), (1, u "java/lang/String"), (0, u "value"), (0, u "[B"), (2, u "coder"), (0, u "B"), (2, u "hash"), (0, u "I"), (2, u "hashIsZero"), (0, u "Z"), (13, u "COMPACT_STRINGS"), (534, .class_ 576), (0, u "java/lang/CharSequence"), (22, u "CASE_INSENSITIVE_ORDER"), (0, u "Ljava/util/Comparator;"), (500, u "serialPersistentFields"), (0, u "[Ljava/io/ObjectStreamField;"), (0, .class_ 1104), (0, u "java/lang/String$CaseInsensitiveComparator"), (1, .class_ 1107), (0, u "java/io/Serializable"), (0, .class_ 1109), (0, u "java/lang/Comparable"), (0, .class_ 1111), (0, u "java/lang/constant/Constable"), (0, .class_ 1113), (0, u "java/lang/constant/ConstantDesc"), (2, u "serialVersionUID"), (0, u "J"), (3, u "REPL"), (0, u "C"), (2, u "LATIN1"), (1, u "UTF16")] 323

def k8m0 : Method := { name := "<init>", desc := "()V", sig := { parameters := [], returnType := none }, accessFlags := 1, code := none }
/-- java/lang/String -/
def k8 : Class := { plain "java/lang/String" (some 0) with
  accessFlags := 49
  interfaces := #[3, 4, 5, 6, 7]
  cf := some (fileOf pool8 10 #[.nestMembers #[1103]] #[{ accessFlags := 1, nameIndex := 5, descriptorIndex := 6, attributes := #[] }] 49 2 #[1106, 1108, 575, 1110, 1112] #[{ accessFlags := 18, nameIndex := 13, descriptorIndex := 14, attributes := #[] }, { accessFlags := 18, nameIndex := 17, descriptorIndex := 18, attributes := #[] }, { accessFlags := 2, nameIndex := 21, descriptorIndex := 22, attributes := #[] }, { accessFlags := 2, nameIndex := 25, descriptorIndex := 26, attributes := #[] }, { accessFlags := 26, nameIndex := 1116, descriptorIndex := 1117, attributes := #[] }, { accessFlags := 24, nameIndex := 40, descriptorIndex := 26, attributes := #[] }, { accessFlags := 26, nameIndex := 1101, descriptorIndex := 1102, attributes := #[] }, { accessFlags := 26, nameIndex := 1121, descriptorIndex := 1122, attributes := #[] }, { accessFlags := 25, nameIndex := 599, descriptorIndex := 600, attributes := #[] }, { accessFlags := 24, nameIndex := 1125, descriptorIndex := 18, attributes := #[] }, { accessFlags := 24, nameIndex := 1127, descriptorIndex := 18, attributes := #[] }])
  fields := #[{ name := "value", type := (.array .byte), accessFlags := 18, slot := 0, constantValue := 0 }, { name := "coder", type := .byte, accessFlags := 18, slot := 1, constantValue := 0 }, { name := "hash", type := .int, accessFlags := 2, slot := 2, constantValue := 0 }, { name := "hashIsZero", type := .boolean, accessFlags := 2, slot := 3, constantValue := 0 }, { name := "serialVersionUID", type := .long, accessFlags := 26, slot := 0, constantValue := 0 }, { name := "COMPACT_STRINGS", type := .boolean, accessFlags := 24, slot := 1, constantValue := 0 }, { name := "serialPersistentFields", type := (.array (.object "java/io/ObjectStreamField")), accessFlags := 26, slot := 2, constantValue := 0 }, { name := "REPL", type := .char, accessFlags := 26, slot := 3, constantValue := 0 }, { name := "CASE_INSENSITIVE_ORDER", type := (.object "java/util/Comparator"), accessFlags := 25, slot := 4, constantValue := 0 }, { name := "LATIN1", type := .byte, accessFlags := 24, slot := 5, constantValue := 0 }, { name := "UTF16", type := .byte, accessFlags := 24, slot := 6, constantValue := 0 }]
  methods := #[k8m0]
  instanceTypes := #[(.array .byte), .byte, .int, .boolean]
  staticTypes := #[.long, .boolean, (.array (.object "java/io/ObjectStreamField")), .char, (.object "java/util/Comparator"), .byte, .byte]
  resolved := Array.replicate 1451 none
  statics := none }

def pool9 : Array CpInfo := pool [(1, u "java/lang/Cloneable"), (0, .class_ 1), (0, u "java/lang/Object"), (0, .class_ 3)] 3

/-- java/lang/Cloneable -/
def k9 : Class := { plain "java/lang/Cloneable" (some 0) with
  accessFlags := 1537
  interfaces := #[]
  cf := some (fileOf pool9 2 #[] #[] 1537 4 #[] #[])
  fields := #[]
  methods := #[]
  instanceTypes := #[]
  staticTypes := #[]
  resolved := Array.replicate 8 none
  statics := none }

/-- the primitive byte -/
def k10 : Class := { plain "byte" none with kind := .primitive 'B', accessFlags := 0x411 }
/-- [B -/
def k11 : Class := { plain "[B" (some 0) with kind := .array 10 .byte, interfaces := #[9, 3], accessFlags := 1041 }

/-- the primitive int -/
def k12 : Class := { plain "int" none with kind := .primitive 'I', accessFlags := 0x411 }
/-- [I -/
def k13 : Class := { plain "[I" (some 0) with kind := .array 12 .int, interfaces := #[9, 3], accessFlags := 1041 }

def heap : Heap := #[]
def classes : Array Class := #[k0, k1, k2, k3, k4, k5, k6, k7, k8, k9, k10, k11, k12, k13]
def interned : List (Array UInt16 × Addr) := []
def slotsUsed : Nat := 0
def theMethod : MethodId := ⟨1, 1⟩
def args0 : Array Value := #[.int 5, .int 3, .int 7, .int 9, .int 9, .int 9]
def aboutOver (below : List Frame) : State where
  vm := { classes := classes, interned := interned.toArray }
  heap := heap
  slotsUsed := slotsUsed
  threads := #[{ frames := .invoking theMethod args0 :: below }]
def below0 : List Frame := [.native { method := ⟨0, 0⟩, args := #[] }]
def about1 : State := aboutOver below0
def p0 : Program := .bare "" "" ""
def e0 : Env := launch0.env 0 0 0
theorem w_frames : about1.frames = Frame.invoking theMethod args0 :: below0 := rfl
set_option maxRecDepth 65536 in
theorem w_args : argsFit about1.vm theMethod args0 = true := by decide +kernel
set_option maxRecDepth 65536 in
theorem w_heap : heapFits about1 = true := by decide +kernel
set_option maxRecDepth 65536 in
theorem w_runnable : about1.curStatus? = some .runnable := by decide +kernel
set_option maxRecDepth 65536 in
theorem w_alone : about1.alone = true := by decide +kernel
set_option maxRecDepth 65536 in
theorem w_named : about1.methodNamed? x = some theMethod := by decide +kernel
set_option maxRecDepth 65536 in
theorem w_hears : about1.hears theMethod below0 = true := by decide +kernel
set_option maxRecDepth 65536 in
theorem w_ripe : about1.ripe theMethod args0 below0 = true := by decide +kernel
theorem w_running : about1.status = .running := rfl
set_option maxRecDepth 65536 in
theorem w_room : about1.hasRoom e0.platform room_1 = true :=
  launch0.hasRoom_least _ room_1 (by decide +kernel) (by decide +kernel) (by decide +kernel) (by decide +kernel) (by decide +kernel) (by decide +kernel)
theorem allAtoms_all (ts : List Jvm.Cond) (a : Array Jvm.Value) (st : Jvm.State) : (allAtoms ts).before a st = ts.all (fun c => c.before a st) := by
  induction ts with
  | nil => rfl
  | cons c t ih =>
    show (Jvm.Cond.and c (allAtoms t)).before a st = _
    rw [Jvm.Cond.before_and, ih, List.all_cons]
def words1 : List Jvm.Cond := Jvm.Cond.code x code maxLocals ret :: tables_1
/-- a 'code' word, met by the world's own term for the bytes: nothing is compared byte by byte -/
theorem code_word {y : MethodName} {bytes : ByteArray} {mx : Nat} {rt : Option FieldType} {a : Array Value} {s : State} {m : MethodId} {meth : Method} {c : Code} (h1 : s.methodNamed? y = some m) (h2 : s.vm.method? m = some meth) (h3 : meth.code = some c) (h4 : c.code = bytes)
    (h5 : (c.maxLocals == mx && c.exceptionTable.isEmpty && decide (c.maxStack ≤ mostOperands) && decide (meth.sig.returnType = rt) && !meth.locks && decide (parseMethodDescriptor y.desc = some meth.sig)) = true) : (Jvm.Cond.code y bytes mx rt).before a s = true := by
  simp only [Bool.and_eq_true, beq_iff_eq, Bool.not_eq_true', decide_eq_true_eq] at h5
  obtain ⟨⟨⟨⟨⟨g1, g2⟩, g3⟩, g4⟩, g5⟩, g6⟩ := h5
  simp [Cond.before, Cond.holds, Cond.value, h1, h2, h3, h4, g1, g2, g3, g4, g5, g6]
def isCode : Jvm.Cond → Bool
  | .code _ _ _ _ => true
  | _ => false
theorem all_split {L : List Jvm.Cond} {P : Jvm.Cond → Bool} (h1 : L.all (fun c => isCode c || P c) = true) (h2 : ∀ c ∈ L.filter isCode, P c = true) : L.all P = true := by
  refine List.all_eq_true.mpr fun c hc => ?_
  have h := List.all_eq_true.mp h1 c hc
  rcases Bool.eq_false_or_eq_true (isCode c) with hi | hi
  · exact h2 c (List.mem_filter.mpr ⟨hc, hi⟩)
  · simpa [hi] using h
set_option maxRecDepth 65536 in
theorem w_c0 : (Jvm.Cond.code x code maxLocals ret).before args0 about1 = true := code_word (m := ⟨1, 1⟩) (meth := k1m1) (c := k1c1) (by decide +kernel) rfl rfl rfl (by decide +kernel)
set_option maxRecDepth 65536 in
theorem w_c1 : (Jvm.Cond.code ({ cls := "com/example/futures_from_states/futuresfromstates/model/ArrayVariable", name := "<init>", desc := "(Ljava/lang/String;[I[II)V" } : Jvm.MethodName) prog_47_method_1_code (7 : Nat) (Option.none : Option Jvm.ClassFile.FieldType)).before args0 about1 = true := code_word (m := ⟨2, 0⟩) (meth := k2m0) (c := k2c0) (by decide +kernel) rfl rfl rfl (by decide +kernel)
set_option maxRecDepth 65536 in
theorem w_c2 : (Jvm.Cond.code ({ cls := "java/lang/Object", name := "<init>", desc := "()V" } : Jvm.MethodName) object_method_1_code (1 : Nat) (Option.none : Option Jvm.ClassFile.FieldType)).before args0 about1 = true := code_word (m := ⟨0, 0⟩) (meth := k0m0) (c := k0c0) (by decide +kernel) rfl rfl rfl (by decide +kernel)
set_option maxRecDepth 65536 in
theorem w_c3 : (Jvm.Cond.code ({ cls := "com/example/futures_from_states/futuresfromstates/model/ArrayVariable", name := "inBounds", desc := "(II)Z" } : Jvm.MethodName) prog_47_method_4_code (3 : Nat) (Option.some Jvm.ClassFile.FieldType.boolean)).before args0 about1 = true := code_word (m := ⟨2, 1⟩) (meth := k2m1) (c := k2c1) (by decide +kernel) rfl rfl rfl (by decide +kernel)
def codes1 : List Jvm.Cond := [Jvm.Cond.code x code maxLocals ret, Jvm.Cond.code ({ cls := "com/example/futures_from_states/futuresfromstates/model/ArrayVariable", name := "<init>", desc := "(Ljava/lang/String;[I[II)V" } : Jvm.MethodName) prog_47_method_1_code (7 : Nat) (Option.none : Option Jvm.ClassFile.FieldType), Jvm.Cond.code ({ cls := "java/lang/Object", name := "<init>", desc := "()V" } : Jvm.MethodName) object_method_1_code (1 : Nat) (Option.none : Option Jvm.ClassFile.FieldType), Jvm.Cond.code ({ cls := "com/example/futures_from_states/futuresfromstates/model/ArrayVariable", name := "inBounds", desc := "(II)Z" } : Jvm.MethodName) prog_47_method_4_code (3 : Nat) (Option.some Jvm.ClassFile.FieldType.boolean)]
set_option maxRecDepth 65536 in
theorem codes_eq : words1.filter isCode = codes1 := rfl
theorem w_codes : ∀ c ∈ words1.filter isCode, c.before args0 about1 = true := by
  rw [codes_eq]
  intro c hc
  simp only [codes1, List.mem_cons, List.not_mem_nil, or_false] at hc
  rcases hc with rfl | rfl | rfl | rfl
  · exact w_c0
  · exact w_c1
  · exact w_c2
  · exact w_c3
set_option maxRecDepth 65536 in
theorem w_t1 : (words1.take 24).all (fun c => isCode c || c.before args0 about1) = true := by decide +kernel
set_option maxRecDepth 65536 in
theorem w_t2 : (words1.drop 24).all (fun c => isCode c || c.before args0 about1) = true := by decide +kernel
theorem w_tables : (allAtoms (Jvm.Cond.code x code maxLocals ret :: tables_1)).before args0 about1 = true := by
  rw [allAtoms_all]
  show words1.all (fun c => c.before args0 about1) = true
  refine all_split ?_ w_codes
  rw [← List.take_append_drop 24 words1, List.all_append, w_t1, w_t2]
  rfl
set_option maxRecDepth 65536 in
theorem w_case : (Jvm.Cond.and given_1 narrow_1).before args0 about1 = true := by decide +kernel
theorem w_applies : (headSpec (Jvm.Cond.code x code maxLocals ret :: tables_1) room_1).applies x e0.platform about1 = true :=
  (Spec.applies_iff w_frames).mpr ⟨w_running, w_runnable, w_alone, w_named, w_hears, w_ripe, w_room, w_tables⟩
theorem atStart : AtStart classFile x code maxLocals ret World_1 tables_1 room_1 Calls_1 rest_1 Pre_1 launch0 p0 e0 about1 theMethod args0 below0 :=
  ⟨lists_1, trivial, launch0.admits_env _ _ _, launch0.least_env, fairChoices_fair.cas, fairChoices_fair.clock, w_frames, w_args, w_heap, w_applies, trivial, trivial, w_case⟩
end start1
theorem witness_1 : WitnessClaimed_1 := ⟨start1.p0, start1.e0, start1.about1, start1.theMethod, start1.args0, start1.below0, start1.atStart⟩
end Jvm.Pilot.@@N@@
