import JvmDerived
import JvmDerived.Pilot.@@N@@Statement
import JvmDerived.Pilot.@@N@@Code
set_option linter.unusedVariables false
set_option linter.unusedSimpArgs false
namespace Jvm.Pilot.@@N@@
open Jvm Jvm.ClassFile Sem Op Lib Jvm.Free Jvm.Stand Jvm.LawKit Jvm.RoadKit Bundle Jvm.Pilot.@@N@@.Jvm.D
section OwnArr
variable {p : Program} {l : Launch} {e : Env} {R : Room} {s : State} {m : MethodId} {args : Array Value} {below : List Frame} {meth : Method} {c : Code} {T : State} {locs : List Loc} {cells slots : Nat} {Z : State} {a0 : Array Value} {h : Heap} {a : Addr} {k : ClassId} {z : Int32} {vs : List Value} {dv : Value}
theorem own_ldB (X : Stand p l e R s m args below meth c T locs cells slots) (hx : p.tables.exec = Jvm.exec) (hZ : Z.Warmed39 s.vm) (eT : T.heap = h) (F : Arv Z h a k .byte z vs dv) {j : Int32} (q : ¬ j < 0 ∧ j < z) {v : Value} (u : vs.getD j.toNatClampNeg dv = v) {g : JFrame} (hg : g.method = m) {rest : List Value} (hs : g.stack = .int j :: .ref a :: rest) (hd : decode c.code g.pc = .ok (.baload, 1)) :
    Steps p.tables e below (T.setTop g) (T.setTop { g with pc := g.pc + 1, stack := v :: rest }) := by
  obtain ⟨cl, A, q1, S, N, H, G⟩ := F
  have hin := inb_of S q
  exact X.baloadBytes hx (by rw [eT]; exact A.1) (State.isArrayOf_alike hZ.alike A.2.1) A.2.2 hin (H.at hin u) hg hs hd _ (Steps.refl _)
theorem own_ldI (X : Stand p l e R s m args below meth c T locs cells slots) (hx : p.tables.exec = Jvm.exec) (hZ : Z.Warmed39 s.vm) (eT : T.heap = h) (F : Arv Z h a k .int z vs dv) {j : Int32} (q : ¬ j < 0 ∧ j < z) {v : Value} (u : vs.getD j.toNatClampNeg dv = v) {g : JFrame} (hg : g.method = m) {rest : List Value} (hs : g.stack = .int j :: .ref a :: rest) (hd : decode c.code g.pc = .ok (.iaload, 1)) :
    Steps p.tables e below (T.setTop g) (T.setTop { g with pc := g.pc + 1, stack := v :: rest }) := by
  obtain ⟨cl, A, q1, S, N, H, G⟩ := F
  have hin := inb_of S q
  exact X.iaload hx (by rw [eT]; exact A.1) (State.isArrayOf_alike hZ.alike A.2.1) A.2.2 hin (H.at hin u) hg hs hd _ (Steps.refl _)
theorem own_ldJ (X : Stand p l e R s m args below meth c T locs cells slots) (hx : p.tables.exec = Jvm.exec) (hZ : Z.Warmed39 s.vm) (eT : T.heap = h) (F : Arv Z h a k .long z vs dv) {j : Int32} (q : ¬ j < 0 ∧ j < z) {v : Value} (u : vs.getD j.toNatClampNeg dv = v) {g : JFrame} (hg : g.method = m) {rest : List Value} (hs : g.stack = .int j :: .ref a :: rest) (hd : decode c.code g.pc = .ok (.laload, 1)) :
    Steps p.tables e below (T.setTop g) (T.setTop { g with pc := g.pc + 1, stack := v :: rest }) := by
  obtain ⟨cl, A, q1, S, N, H, G⟩ := F
  have hin := inb_of S q
  exact X.laload hx (by rw [eT]; exact A.1) (State.isArrayOf_alike hZ.alike A.2.1) A.2.2 hin (H.at hin u) hg hs hd _ (Steps.refl _)
theorem own_len {ty : FieldType} (X : Stand p l e R s m args below meth c T locs cells slots) (hx : p.tables.exec = Jvm.exec) (hZ : Z.Warmed39 s.vm) (eT : T.heap = h) (F : Arv Z h a k ty z vs dv) {g : JFrame} (hg : g.method = m) {rest : List Value} (hs : g.stack = .ref a :: rest) (hd : decode c.code g.pc = .ok (.arraylength, 1)) :
    Steps p.tables e below (T.setTop g) (T.setTop { g with pc := g.pc + 1, stack := .int z :: rest }) := by
  obtain ⟨cl, A, q1, S, N, H, G⟩ := F
  have q := X.arraylength hx (by rw [eT]; exact A.1) (State.isArrayOf_alike hZ.alike A.2.1) hg hs hd _ (Steps.refl _)
  rw [len_of S N] at q
  exact q
theorem own_stB (X : Stand p l e R s m args below meth c T locs cells slots) (hx : p.tables.exec = Jvm.exec) (hZ : Z.Warmed39 s.vm) (eT : T.heap = h) (F : Arv Z h a k .byte z vs dv) {j x : Int32} (q : ¬ j < 0 ∧ j < z) (i : Nat) (hj : j.toNatClampNeg = i) (hi : i < vs.length) {g : JFrame} (hg : g.method = m) {rest : List Value} (hs : g.stack = .int x :: .int j :: .ref a :: rest) (hd : decode c.code g.pc = .ok (.bastore, 1)) :
    ∃ T' h', Stand p l e R s m args below meth c T' (locs ++ [⟨a, j.toNatClampNeg⟩]) cells slots ∧ T'.heap = h' ∧ Wr h h' a j.toNatClampNeg (.int (x.toInt8.toInt32)) ∧ Arv Z h' a k .byte z (vs.set i (.int (x.toInt8.toInt32))) dv ∧ Steps p.tables e below (T.setTop g) (T'.setTop { g with pc := g.pc + 1, stack := rest }) := by
  obtain ⟨cl, A, q1, S, N, H, G⟩ := F
  have hin := inb_of S q
  obtain ⟨T', h', X', e', W, st⟩ := stB X hx hZ eT A hin hg hs hd
  exact ⟨T', h', X', e', W, Arv.set A q1 S N H G (fits_nar_byte _) W i hj hi, st _ (Steps.refl _)⟩
theorem own_stI (X : Stand p l e R s m args below meth c T locs cells slots) (hx : p.tables.exec = Jvm.exec) (hZ : Z.Warmed39 s.vm) (eT : T.heap = h) (F : Arv Z h a k .int z vs dv) {j x : Int32} (q : ¬ j < 0 ∧ j < z) (i : Nat) (hj : j.toNatClampNeg = i) (hi : i < vs.length) {g : JFrame} (hg : g.method = m) {rest : List Value} (hs : g.stack = .int x :: .int j :: .ref a :: rest) (hd : decode c.code g.pc = .ok (.iastore, 1)) :
    ∃ T' h', Stand p l e R s m args below meth c T' (locs ++ [⟨a, j.toNatClampNeg⟩]) cells slots ∧ T'.heap = h' ∧ Wr h h' a j.toNatClampNeg (.int x) ∧ Arv Z h' a k .int z (vs.set i (.int x)) dv ∧ Steps p.tables e below (T.setTop g) (T'.setTop { g with pc := g.pc + 1, stack := rest }) := by
  obtain ⟨cl, A, q1, S, N, H, G⟩ := F
  have hin := inb_of S q
  obtain ⟨T', h', X', e', W, st⟩ := stI X hx hZ eT A hin hg hs hd
  exact ⟨T', h', X', e', W, Arv.set A q1 S N H G rfl W i hj hi, st _ (Steps.refl _)⟩
theorem own_stJ (X : Stand p l e R s m args below meth c T locs cells slots) (hx : p.tables.exec = Jvm.exec) (hZ : Z.Warmed39 s.vm) (eT : T.heap = h) (F : Arv Z h a k .long z vs dv) {j : Int32} {x : Int64} (q : ¬ j < 0 ∧ j < z) (i : Nat) (hj : j.toNatClampNeg = i) (hi : i < vs.length) {g : JFrame} (hg : g.method = m) {rest : List Value} (hs : g.stack = .long x :: .int j :: .ref a :: rest) (hd : decode c.code g.pc = .ok (.lastore, 1)) :
    ∃ T' h', Stand p l e R s m args below meth c T' (locs ++ [⟨a, j.toNatClampNeg⟩]) cells slots ∧ T'.heap = h' ∧ Wr h h' a j.toNatClampNeg (.long x) ∧ Arv Z h' a k .long z (vs.set i (.long x)) dv ∧ Steps p.tables e below (T.setTop g) (T'.setTop { g with pc := g.pc + 1, stack := rest }) := by
  obtain ⟨cl, A, q1, S, N, H, G⟩ := F
  have hin := inb_of S q
  obtain ⟨T', h', X', e', W, st⟩ := stJ X hx hZ eT A hin hg hs hd
  exact ⟨T', h', X', e', W, Arv.set A q1 S N H G rfl W i hj hi, st _ (Steps.refl _)⟩
theorem own_newB (X : Stand p l e R s m args below meth c T locs cells slots) (hx : p.tables.exec = Jvm.exec) (hZ : Z.Warmed39 s.vm) (w : (Jvm.Cond.arrayClass .byte).before a0 Z = true) (eT : T.heap = h) {g : JFrame} (hg : g.method = m) (hd : decode c.code g.pc = .ok (.newarray .byte, 2)) {n : Int32} {rest : List Value} (hs : g.stack = .int n :: rest)
    (hn : ¬ n < 0) (N : Nat) (hcap : n.toNatClampNeg ≤ N) (hb : N * 8 ≤ 536870912) (hc : cells + 1 ≤ R.cells) (hl : slots + N ≤ R.slots) :
    ∃ T' h' k x, Stand p l e R s m args below meth c T' locs (cells + 1) (slots + N) ∧ T'.heap = h' ∧ Ext h h' ∧ x = h.size ∧ Arv Z h' x k .byte n (List.replicate N (.int (0 : Int32))) (.int (0 : Int32)) ∧ Exa Z h' x "[B" ∧ Steps p.tables e below (T.setTop g) (T'.setTop { g with pc := g.pc + 2, stack := .ref x :: rest }) := by
  obtain ⟨T', h', k, X', e', E, A, Ex, st⟩ := newPE (aty := .byte) X hx hZ w eT hg hd hs hn hcap hb hc hl (ad := "[B") (by decide)
  exact ⟨T', h', k, _, X', e', E, rfl, (Arv.new A hn).pad (pad_rep [] _ N), Ex, st _ (Steps.refl _)⟩
theorem own_newI (X : Stand p l e R s m args below meth c T locs cells slots) (hx : p.tables.exec = Jvm.exec) (hZ : Z.Warmed39 s.vm) (w : (Jvm.Cond.arrayClass .int).before a0 Z = true) (eT : T.heap = h) {g : JFrame} (hg : g.method = m) (hd : decode c.code g.pc = .ok (.newarray .int, 2)) {n : Int32} {rest : List Value} (hs : g.stack = .int n :: rest)
    (hn : ¬ n < 0) (N : Nat) (hcap : n.toNatClampNeg ≤ N) (hb : N * 8 ≤ 536870912) (hc : cells + 1 ≤ R.cells) (hl : slots + N ≤ R.slots) :
    ∃ T' h' k x, Stand p l e R s m args below meth c T' locs (cells + 1) (slots + N) ∧ T'.heap = h' ∧ Ext h h' ∧ x = h.size ∧ Arv Z h' x k .int n (List.replicate N (.int (0 : Int32))) (.int (0 : Int32)) ∧ Exa Z h' x "[I" ∧ Steps p.tables e below (T.setTop g) (T'.setTop { g with pc := g.pc + 2, stack := .ref x :: rest }) := by
  obtain ⟨T', h', k, X', e', E, A, Ex, st⟩ := newPE (aty := .int) X hx hZ w eT hg hd hs hn hcap hb hc hl (ad := "[I") (by decide)
  exact ⟨T', h', k, _, X', e', E, rfl, (Arv.new A hn).pad (pad_rep [] _ N), Ex, st _ (Steps.refl _)⟩
theorem own_newJ (X : Stand p l e R s m args below meth c T locs cells slots) (hx : p.tables.exec = Jvm.exec) (hZ : Z.Warmed39 s.vm) (w : (Jvm.Cond.arrayClass .long).before a0 Z = true) (eT : T.heap = h) {g : JFrame} (hg : g.method = m) (hd : decode c.code g.pc = .ok (.newarray .long, 2)) {n : Int32} {rest : List Value} (hs : g.stack = .int n :: rest)
    (hn : ¬ n < 0) (N : Nat) (hcap : n.toNatClampNeg ≤ N) (hb : N * 8 ≤ 536870912) (hc : cells + 1 ≤ R.cells) (hl : slots + N ≤ R.slots) :
    ∃ T' h' k x, Stand p l e R s m args below meth c T' locs (cells + 1) (slots + N) ∧ T'.heap = h' ∧ Ext h h' ∧ x = h.size ∧ Arv Z h' x k .long n (List.replicate N (.long (0 : Int64))) (.long (0 : Int64)) ∧ Exa Z h' x "[J" ∧ Steps p.tables e below (T.setTop g) (T'.setTop { g with pc := g.pc + 2, stack := .ref x :: rest }) := by
  obtain ⟨T', h', k, X', e', E, A, Ex, st⟩ := newPE (aty := .long) X hx hZ w eT hg hd hs hn hcap hb hc hl (ad := "[J") (by decide)
  exact ⟨T', h', k, _, X', e', E, rfl, (Arv.new A hn).pad (pad_rep [] _ N), Ex, st _ (Steps.refl _)⟩
end OwnArr
def own_E (v : Int64) : Value := (.int (((((v &&& (127 : Int64)) ||| (128 : Int64)).toInt32).toInt8.toInt32).toInt8.toInt32))
def wl : Nat → List Value → Int64 → Int32 → List Value × Int64 × Int32
  | 0, vs, v, j => (vs, v, j)
  | k + 1, vs, v, j => if (v &&& (-128 : Int64)) = (0 : Int64) then (vs, v, j) else wl k (vs.set j.toNatClampNeg (own_E v)) ((v.toUInt64 >>> ((7 : Int32) &&& 0x3f).toInt64.toUInt64).toInt64) (j + (1 : Int32))
theorem own_mask : ∀ i : Fin 64, 7 ≤ i.1 → (-128 : Int64).toBitVec.getLsbD i.1 = true := by decide +kernel
theorem own_mask0 : ∀ i : Fin 64, i.1 < 7 → (-128 : Int64).toBitVec.getLsbD i.1 = false := by decide +kernel
theorem own_hi (v : Int64) : (v &&& (-128 : Int64)) = (0 : Int64) ↔ v.toBitVec.toNat < 128 := by
  constructor
  · intro h
    apply Nat.lt_pow_two_of_testBit (n := 7)
    intro i hi
    by_cases h64 : i < 64
    · have q : (v &&& (-128 : Int64)).toBitVec.getLsbD i = (0 : Int64).toBitVec.getLsbD i := by rw [h]
      rw [Int64.toBitVec_and, BitVec.getLsbD_and, own_mask ⟨i, h64⟩ hi, Bool.and_true] at q
      rw [BitVec.testBit_toNat, q]
      show (0#64).getLsbD i = false
      simp
    · exact Nat.testBit_lt_two_pow (Nat.lt_of_lt_of_le v.toBitVec.isLt (Nat.pow_le_pow_right (by decide) (by omega)))
  · intro h
    apply Int64.toBitVec_inj.mp
    apply BitVec.eq_of_getLsbD_eq
    intro i hi
    rw [Int64.toBitVec_and, BitVec.getLsbD_and]
    have z : (0 : Int64).toBitVec.getLsbD i = false := by show (0#64).getLsbD i = false; simp
    rw [z]
    by_cases h7 : i < 7
    · rw [own_mask0 ⟨i, hi⟩ h7, Bool.and_false]
    · rw [← BitVec.testBit_toNat, Nat.testBit_lt_two_pow (Nat.lt_of_lt_of_le h (show 128 ≤ 2 ^ i from Nat.pow_le_pow_right (n := 2) (by decide) (by omega : 7 ≤ i))), Bool.false_and]
theorem own_nn (v : Int64) : (v.toBitVec.toNat : Int) = v.toInt % 18446744073709551616 := by
  have h := v.toBitVec.isLt
  show _ = v.toBitVec.toInt % 18446744073709551616
  rw [BitVec.toInt_eq_toNat_bmod]
  have := Jvm.RoadKit.bm64 (v.toBitVec.toNat : Int)
  omega
theorem own_sh (v : Int64) : (((v.toUInt64 >>> ((7 : Int32) &&& 0x3f).toInt64.toUInt64).toInt64)).toBitVec.toNat = v.toBitVec.toNat / 128 := by
  have h1 := Jvm.RoadKit.c_lushr v (7 : Int32) 7 (by decide) (by decide)
  have h2 := own_nn v
  have h3 := own_nn (((v.toUInt64 >>> ((7 : Int32) &&& 0x3f).toInt64.toUInt64).toInt64))
  have h4 := v.toBitVec.isLt
  omega
theorem own_pos (q : Int64) (p : Int32) : 0 ≤ (((q &&& (9223372036854775807 : Int64)).toUInt64 >>> (p &&& 0x3f).toInt64.toUInt64).toInt64).toInt := by
  have hk : p.toBitVec.toNat % 64 < 64 := Nat.mod_lt _ (by decide)
  have h0 := Jvm.RoadKit.c_maskL q (9223372036854775807 : Int64) 63 (by decide) (by decide)
  by_cases z : p.toBitVec.toNat % 64 = 0
  · have e : (p &&& 0x3f).toInt64.toUInt64 = 0 := by
      have h := (Jvm.RoadKit.sm64 p 0 z).1
      have : (p &&& 0x3f).toInt64 = 0 := Int64.toBitVec_inj.mp (by rw [h]; rfl)
      rw [this]; rfl
    rw [e]
    have : (((q &&& (9223372036854775807 : Int64)).toUInt64 >>> (0 : UInt64)).toInt64) = (q &&& (9223372036854775807 : Int64)) := by simp
    rw [this, h0]; omega
  · have h1 := Jvm.RoadKit.c_lushr (q &&& (9223372036854775807 : Int64)) p _ rfl (by omega)
    rw [h1]
    exact Int.ediv_nonneg (by omega) (Int.natCast_nonneg _)
theorem own_lt32 {a b : Int32} : a < b ↔ a.toInt < b.toInt := Int32.lt_iff_toInt_lt
theorem own_nat {a : Int32} (h : 0 ≤ a.toInt) : (a.toNatClampNeg : Int) = a.toInt := by simp only [Int32.toNatClampNeg]; omega
theorem own_z0 : (0 : Int32).toInt = 0 := rfl
theorem own_z1 : (1 : Int32).toInt = 1 := rfl
theorem own_z16 : (16 : Int32).toInt = 16 := rfl
theorem own_fin (v : Int64) (h : 0 ≤ v.toInt ∧ v.toInt < 2 ^ (7 * (0 + 1))) : (v &&& (-128 : Int64)) = (0 : Int64) := by
  apply (own_hi v).mpr
  have h1 := own_nn v
  have h2 := v.toBitVec.isLt
  have e : (2 : Int) ^ (7 * (0 + 1)) = 128 := by decide
  omega
theorem own_sh7 (v : Int64) (h : 0 ≤ v.toInt) : (((v.toUInt64 >>> ((7 : Int32) &&& 0x3f).toInt64.toUInt64).toInt64)).toInt = v.toInt / 128 := by
  have h1 := Jvm.RoadKit.c_lushr v (7 : Int32) 7 (by decide) (by decide)
  have h2 := Jvm.RoadKit.rng64 v
  omega
theorem own_next (v : Int64) (k : Nat) (h : 0 ≤ v.toInt ∧ v.toInt < 2 ^ (7 * (k + 1 + 1))) : 0 ≤ (((v.toUInt64 >>> ((7 : Int32) &&& 0x3f).toInt64.toUInt64).toInt64)).toInt ∧ (((v.toUInt64 >>> ((7 : Int32) &&& 0x3f).toInt64.toUInt64).toInt64)).toInt < 2 ^ (7 * (k + 1)) := by
  rw [own_sh7 v h.1]
  have e : (2 : Int) ^ (7 * (k + 1 + 1)) = 2 ^ (7 * (k + 1)) * 128 := by rw [show 7 * (k + 1 + 1) = 7 * (k + 1) + 7 by omega, Int.pow_add]; rfl
  have h2 := h.2
  rw [e] at h2
  generalize (2 : Int) ^ (7 * (k + 1)) = P at h2 ⊢
  omega
theorem own_j (j : Int32) (k : Nat) (h : 0 ≤ j.toInt ∧ j.toInt + (k : Int) + 1 ≤ 15) : (¬ (j < (0 : Int32))) ∧ j < (16 : Int32) := by
  rw [own_lt32, own_lt32, own_z0, own_z16]; omega
theorem own_jn (j : Int32) (k : Nat) (h : 0 ≤ j.toInt ∧ j.toInt + (k : Int) + 1 ≤ 15) : 0 ≤ (j + (1 : Int32)).toInt ∧ (j + (1 : Int32)).toInt + (k : Int) ≤ 15 := by
  have h1 := Jvm.RoadKit.c_iadd j (1 : Int32)
  have h2 := Jvm.RoadKit.rng32 (j + (1 : Int32))
  have e := own_z1
  omega
theorem own_jl (j : Int32) (k : Nat) (h : 0 ≤ j.toInt ∧ j.toInt + (k : Int) + 1 ≤ 15) : j.toNatClampNeg < 16 := by
  have := own_nat h.1; omega

theorem d2_3 : decode prog_28_method_3_code 3 = .ok (.lload_n 2, 1) := by decide +kernel
theorem d2_4 : decode prog_28_method_3_code 4 = .ok (.ldc2_w 7, 3) := by decide +kernel
theorem d2_7 : decode prog_28_method_3_code 7 = .ok (.land, 1) := by decide +kernel
theorem d2_8 : decode prog_28_method_3_code 8 = .ok (.lconst 0, 1) := by decide +kernel
theorem d2_9 : decode prog_28_method_3_code 9 = .ok (.lcmp, 1) := by decide +kernel
theorem d2_10 : decode prog_28_method_3_code 10 = .ok (.ifCond .eq 29, 3) := by decide +kernel
theorem d2_13 : decode prog_28_method_3_code 13 = .ok (.aload_n 0, 1) := by decide +kernel
theorem d2_14 : decode prog_28_method_3_code 14 = .ok (.iload 4, 2) := by decide +kernel
theorem d2_16 : decode prog_28_method_3_code 16 = .ok (.iinc 4 1, 3) := by decide +kernel
theorem d2_19 : decode prog_28_method_3_code 19 = .ok (.lload_n 2, 1) := by decide +kernel
theorem d2_20 : decode prog_28_method_3_code 20 = .ok (.ldc2_w 9, 3) := by decide +kernel
theorem d2_23 : decode prog_28_method_3_code 23 = .ok (.land, 1) := by decide +kernel
theorem d2_24 : decode prog_28_method_3_code 24 = .ok (.ldc2_w 17, 3) := by decide +kernel
theorem d2_27 : decode prog_28_method_3_code 27 = .ok (.lor, 1) := by decide +kernel
theorem d2_28 : decode prog_28_method_3_code 28 = .ok (.l2i, 1) := by decide +kernel
theorem d2_29 : decode prog_28_method_3_code 29 = .ok (.i2b, 1) := by decide +kernel
theorem d2_30 : decode prog_28_method_3_code 30 = .ok (.bastore, 1) := by decide +kernel
theorem d2_31 : decode prog_28_method_3_code 31 = .ok (.lload_n 2, 1) := by decide +kernel
theorem d2_32 : decode prog_28_method_3_code 32 = .ok (.bipush 7, 2) := by decide +kernel
theorem d2_34 : decode prog_28_method_3_code 34 = .ok (.lushr, 1) := by decide +kernel
theorem d2_35 : decode prog_28_method_3_code 35 = .ok (.lstore_n 2, 1) := by decide +kernel
theorem d2_36 : decode prog_28_method_3_code 36 = .ok (.goto (-33), 3) := by decide +kernel
set_option maxRecDepth 65536 in
set_option maxHeartbeats 40000000 in
theorem wloop {p : Program} {l : Launch} {e : Env} {R : Room} {s : State} {m : MethodId} {args : Array Value} {below : List Frame} {meth : Method} {c : Code} {Z : State} {a0 : Array Value} {n0 : Nat} (hx : p.tables.exec = Jvm.exec) (hZ : Z.Warmed39 s.vm) (hw : ∀ d ∈ tables_1, d.before a0 Z = true) (hby : c.code = prog_28_method_3_code) (hml : c.maxLocals = 5) (hown : s.vm.findClass "com/example/windward/windward/storage/VarInts" = some m.cls) {a : Addr} {off : Int32} {ka : ClassId} (ga : n0 ≤ a) : ∀ (k : Nat) (T0 : State) (locs : List Loc) (h0 : Heap) (vs : List Value) (v : Int64) (j : Int32) (X0 : Stand p l e R s m args below meth c T0 locs 0 0) (e0 : T0.heap = h0) (N0 : Fr n0 locs) (hv : 0 ≤ v.toInt ∧ v.toInt < 2 ^ (7 * (k + 1))) (hj : 0 ≤ j.toInt ∧ j.toInt + (k : Int) ≤ 15) (hl : vs.length = 16) (V0 : Arv Z h0 a ka .byte (16 : Int32) vs (.int (0 : Int32))),
    ∃ (T' : State) (L' : List Loc) (h' : Heap), Stand p l e R s m args below meth c T' L' 0 0 ∧ T'.heap = h' ∧ Fr n0 L' ∧ Keep h0 h' [a] ∧ Arv Z h' a ka .byte (16 : Int32) (wl k vs v j).1 (.int (0 : Int32)) ∧ Steps p.tables e below (T0.setTop (mkF m 3 #[.val (.ref a), .val (.int off), .val (.long v), .second, .val (.int j)] [])) (T'.setTop (mkF m 39 #[.val (.ref a), .val (.int off), .val (.long (wl k vs v j).2.1), .second, .val (.int (wl k vs v j).2.2)] [])) := by
  intro k
  induction k with
  | zero =>
    intro T0 locs h0 vs v j X0 e0 N0 hv hj hl V0
    have K0 : Steps p.tables e below (T0.setTop (mkF m 3 #[.val (.ref a), .val (.int off), .val (.long v), .second, .val (.int j)] [])) (T0.setTop (mkF m 3 #[.val (.ref a), .val (.int off), .val (.long v), .second, .val (.int j)] [])) := Steps.refl _
    have K2 : Steps p.tables e below _ (T0.setTop (mkF m 10 #[.val (.ref a), .val (.int off), .val (.long v), .second, .val (.int j)] [(.int (lcmpW (v &&& (-128 : Int64)) (0 : Int64)))])) := K0.trans (by
      show Steps p.tables e below (T0.setTop (mkF m 3 #[.val (.ref a), .val (.int off), .val (.long v), .second, .val (.int j)] [])) _
      refine XS.lloadN X0.here hx rfl (hb hby d2_3) rfl ?_
      show Steps p.tables e below (T0.setTop (mkF m 4 #[.val (.ref a), .val (.int off), .val (.long v), .second, .val (.int j)] [(.long v)])) _
      refine X0.ldc2Long hx hown (mvT hZ (hw _ (List.mem_of_getElem? (i := 10) rfl))) (g := (mkF m 4 #[.val (.ref a), .val (.int off), .val (.long v), .second, .val (.int j)] [(.long v)])) rfl (hb hby d2_4) _ ?_
      show Steps p.tables e below (T0.setTop (mkF m 7 #[.val (.ref a), .val (.int off), .val (.long v), .second, .val (.int j)] [(.long (-128 : Int64)), (.long v)])) _
      refine XS.land X0.here hx rfl (hb hby d2_7) rfl ?_
      show Steps p.tables e below (T0.setTop (mkF m 8 #[.val (.ref a), .val (.int off), .val (.long v), .second, .val (.int j)] [(.long (v &&& (-128 : Int64)))])) _
      refine XS.lconst X0.here hx rfl (hb hby d2_8) ?_
      show Steps p.tables e below (T0.setTop (mkF m 9 #[.val (.ref a), .val (.int off), .val (.long v), .second, .val (.int j)] [(.long (0 : Int64)), (.long (v &&& (-128 : Int64)))])) _
      refine XS.lcmp X0.here hx rfl (hb hby d2_9) rfl ?_
      show Steps p.tables e below (T0.setTop (mkF m 10 #[.val (.ref a), .val (.int off), .val (.long v), .second, .val (.int j)] [(.int (lcmpW (v &&& (-128 : Int64)) (0 : Int64)))])) _
      exact Steps.refl _)
    have hc10_0 : (v &&& (-128 : Int64)) = (0 : Int64) := own_fin _ hv
    have K3 : Steps p.tables e below _ (T0.setTop (mkF m 39 #[.val (.ref a), .val (.int off), .val (.long v), .second, .val (.int j)] [])) := K2.trans (by
      show Steps p.tables e below (T0.setTop (mkF m 10 #[.val (.ref a), .val (.int off), .val (.long v), .second, .val (.int j)] [(.int (lcmpW (v &&& (-128 : Int64)) (0 : Int64)))])) _
      refine XS.ifYes X0.here hx rfl (pc0 := 10) (pc' := 39) rfl (hb hby d2_10) rfl ((if0 _ _).trans (teq ((lw_eq (v &&& (-128 : Int64)) (0 : Int64)).mpr hc10_0)).1) (by decide) (by decide) ?_
      show Steps p.tables e below (T0.setTop (mkF m 39 #[.val (.ref a), .val (.int off), .val (.long v), .second, .val (.int j)] [])) _
      exact Steps.refl _)
    exact ⟨T0, locs, h0, X0, e0, N0, Keep.refl _ _, V0, K3⟩
  | succ k ih =>
    intro T0 locs h0 vs v j X0 e0 N0 hv hj hl V0
    have hj : 0 ≤ j.toInt ∧ j.toInt + (k : Int) + 1 ≤ 15 := ⟨hj.1, by have := hj.2; omega⟩
    have K0 : Steps p.tables e below (T0.setTop (mkF m 3 #[.val (.ref a), .val (.int off), .val (.long v), .second, .val (.int j)] [])) (T0.setTop (mkF m 3 #[.val (.ref a), .val (.int off), .val (.long v), .second, .val (.int j)] [])) := Steps.refl _
    have K1 : Steps p.tables e below _ (T0.setTop (mkF m 10 #[.val (.ref a), .val (.int off), .val (.long v), .second, .val (.int j)] [(.int (lcmpW (v &&& (-128 : Int64)) (0 : Int64)))])) := K0.trans (by
      show Steps p.tables e below (T0.setTop (mkF m 3 #[.val (.ref a), .val (.int off), .val (.long v), .second, .val (.int j)] [])) _
      refine XS.lloadN X0.here hx rfl (hb hby d2_3) rfl ?_
      show Steps p.tables e below (T0.setTop (mkF m 4 #[.val (.ref a), .val (.int off), .val (.long v), .second, .val (.int j)] [(.long v)])) _
      refine X0.ldc2Long hx hown (mvT hZ (hw _ (List.mem_of_getElem? (i := 10) rfl))) (g := (mkF m 4 #[.val (.ref a), .val (.int off), .val (.long v), .second, .val (.int j)] [(.long v)])) rfl (hb hby d2_4) _ ?_
      show Steps p.tables e below (T0.setTop (mkF m 7 #[.val (.ref a), .val (.int off), .val (.long v), .second, .val (.int j)] [(.long (-128 : Int64)), (.long v)])) _
      refine XS.land X0.here hx rfl (hb hby d2_7) rfl ?_
      show Steps p.tables e below (T0.setTop (mkF m 8 #[.val (.ref a), .val (.int off), .val (.long v), .second, .val (.int j)] [(.long (v &&& (-128 : Int64)))])) _
      refine XS.lconst X0.here hx rfl (hb hby d2_8) ?_
      show Steps p.tables e below (T0.setTop (mkF m 9 #[.val (.ref a), .val (.int off), .val (.long v), .second, .val (.int j)] [(.long (0 : Int64)), (.long (v &&& (-128 : Int64)))])) _
      refine XS.lcmp X0.here hx rfl (hb hby d2_9) rfl ?_
      show Steps p.tables e below (T0.setTop (mkF m 10 #[.val (.ref a), .val (.int off), .val (.long v), .second, .val (.int j)] [(.int (lcmpW (v &&& (-128 : Int64)) (0 : Int64)))])) _
      exact Steps.refl _)
    by_cases hc10 : (v &&& (-128 : Int64)) = (0 : Int64)
    · have K2 : Steps p.tables e below _ (T0.setTop (mkF m 39 #[.val (.ref a), .val (.int off), .val (.long v), .second, .val (.int j)] [])) := K1.trans (by
        show Steps p.tables e below (T0.setTop (mkF m 10 #[.val (.ref a), .val (.int off), .val (.long v), .second, .val (.int j)] [(.int (lcmpW (v &&& (-128 : Int64)) (0 : Int64)))])) _
        refine XS.ifYes X0.here hx rfl (pc0 := 10) (pc' := 39) rfl (hb hby d2_10) rfl ((if0 _ _).trans (teq ((lw_eq (v &&& (-128 : Int64)) (0 : Int64)).mpr hc10)).1) (by decide) (by decide) ?_
        show Steps p.tables e below (T0.setTop (mkF m 39 #[.val (.ref a), .val (.int off), .val (.long v), .second, .val (.int j)] [])) _
        exact Steps.refl _)
      have z : wl (k + 1) vs v j = (vs, v, j) := by simp only [wl]; rw [if_pos hc10]
      rw [z]
      exact ⟨T0, locs, h0, X0, e0, N0, Keep.refl _ _, V0, K2⟩
    · have K3 : Steps p.tables e below _ (T0.setTop (mkF m 30 #[.val (.ref a), .val (.int off), .val (.long v), .second, .val (.int (j + (1 : Int32)))] [(.int ((((v &&& (127 : Int64)) ||| (128 : Int64)).toInt32).toInt8.toInt32)), (.int j), (.ref a)])) := K1.trans (by
        show Steps p.tables e below (T0.setTop (mkF m 10 #[.val (.ref a), .val (.int off), .val (.long v), .second, .val (.int j)] [(.int (lcmpW (v &&& (-128 : Int64)) (0 : Int64)))])) _
        refine XS.ifNo X0.here hx rfl (hb hby d2_10) rfl ((if0 _ _).trans (feq (fun z => hc10 ((lw_eq (v &&& (-128 : Int64)) (0 : Int64)).mp z))).1) ?_
        show Steps p.tables e below (T0.setTop (mkF m 13 #[.val (.ref a), .val (.int off), .val (.long v), .second, .val (.int j)] [])) _
        refine XS.aloadN X0.here hx rfl (hb hby d2_13) rfl rfl ?_
        show Steps p.tables e below (T0.setTop (mkF m 14 #[.val (.ref a), .val (.int off), .val (.long v), .second, .val (.int j)] [(.ref a)])) _
        refine XS.iload X0.here hx rfl (hb hby d2_14) rfl ?_
        show Steps p.tables e below (T0.setTop (mkF m 16 #[.val (.ref a), .val (.int off), .val (.long v), .second, .val (.int j)] [(.int j), (.ref a)])) _
        refine XS.iinc X0.here hx rfl (hb hby d2_16) rfl (l' := #[.val (.ref a), .val (.int off), .val (.long v), .second, .val (.int (j + (1 : Int32)))]) rfl ?_
        show Steps p.tables e below (T0.setTop (mkF m 19 #[.val (.ref a), .val (.int off), .val (.long v), .second, .val (.int (j + (1 : Int32)))] [(.int j), (.ref a)])) _
        refine XS.lloadN X0.here hx rfl (hb hby d2_19) rfl ?_
        show Steps p.tables e below (T0.setTop (mkF m 20 #[.val (.ref a), .val (.int off), .val (.long v), .second, .val (.int (j + (1 : Int32)))] [(.long v), (.int j), (.ref a)])) _
        refine X0.ldc2Long hx hown (mvT hZ (hw _ (List.mem_of_getElem? (i := 15) rfl))) (g := (mkF m 20 #[.val (.ref a), .val (.int off), .val (.long v), .second, .val (.int (j + (1 : Int32)))] [(.long v), (.int j), (.ref a)])) rfl (hb hby d2_20) _ ?_
        show Steps p.tables e below (T0.setTop (mkF m 23 #[.val (.ref a), .val (.int off), .val (.long v), .second, .val (.int (j + (1 : Int32)))] [(.long (127 : Int64)), (.long v), (.int j), (.ref a)])) _
        refine XS.land X0.here hx rfl (hb hby d2_23) rfl ?_
        show Steps p.tables e below (T0.setTop (mkF m 24 #[.val (.ref a), .val (.int off), .val (.long v), .second, .val (.int (j + (1 : Int32)))] [(.long (v &&& (127 : Int64))), (.int j), (.ref a)])) _
        refine X0.ldc2Long hx hown (mvT hZ (hw _ (List.mem_of_getElem? (i := 16) rfl))) (g := (mkF m 24 #[.val (.ref a), .val (.int off), .val (.long v), .second, .val (.int (j + (1 : Int32)))] [(.long (v &&& (127 : Int64))), (.int j), (.ref a)])) rfl (hb hby d2_24) _ ?_
        show Steps p.tables e below (T0.setTop (mkF m 27 #[.val (.ref a), .val (.int off), .val (.long v), .second, .val (.int (j + (1 : Int32)))] [(.long (128 : Int64)), (.long (v &&& (127 : Int64))), (.int j), (.ref a)])) _
        refine XS.lor X0.here hx rfl (hb hby d2_27) rfl ?_
        show Steps p.tables e below (T0.setTop (mkF m 28 #[.val (.ref a), .val (.int off), .val (.long v), .second, .val (.int (j + (1 : Int32)))] [(.long ((v &&& (127 : Int64)) ||| (128 : Int64))), (.int j), (.ref a)])) _
        refine XS.l2i X0.here hx rfl (hb hby d2_28) rfl ?_
        show Steps p.tables e below (T0.setTop (mkF m 29 #[.val (.ref a), .val (.int off), .val (.long v), .second, .val (.int (j + (1 : Int32)))] [(.int (((v &&& (127 : Int64)) ||| (128 : Int64)).toInt32)), (.int j), (.ref a)])) _
        refine XS.i2b X0.here hx rfl (hb hby d2_29) rfl ?_
        show Steps p.tables e below (T0.setTop (mkF m 30 #[.val (.ref a), .val (.int off), .val (.long v), .second, .val (.int (j + (1 : Int32)))] [(.int ((((v &&& (127 : Int64)) ||| (128 : Int64)).toInt32).toInt8.toInt32)), (.int j), (.ref a)])) _
        exact Steps.refl _)
      obtain ⟨T4, h4, X4, e4, W4, V4, st4⟩ := own_stB X0 hx hZ e0 V0 (j := j) (own_j _ _ hj) j.toNatClampNeg rfl (by rw [hl]; exact own_jl _ _ hj) (g := (mkF m 30 #[.val (.ref a), .val (.int off), .val (.long v), .second, .val (.int (j + (1 : Int32)))] [(.int ((((v &&& (127 : Int64)) ||| (128 : Int64)).toInt32).toInt8.toInt32)), (.int j), (.ref a)])) rfl rfl (hb hby d2_30)
      have K5 : Steps p.tables e below _ (T4.setTop (mkF m 31 #[.val (.ref a), .val (.int off), .val (.long v), .second, .val (.int (j + (1 : Int32)))] [])) := K3.trans st4
      have Vw4 : Arv Z h4 a ka .byte (16 : Int32) (vs.set j.toNatClampNeg (.int (((((v &&& (127 : Int64)) ||| (128 : Int64)).toInt32).toInt8.toInt32).toInt8.toInt32))) (.int (0 : Int32)) := V4
      have N4 := Fr.snoc X4 N0 ga
      have K6 : Steps p.tables e below _ (T4.setTop (mkF m 3 #[.val (.ref a), .val (.int off), .val (.long ((v.toUInt64 >>> ((7 : Int32) &&& 0x3f).toInt64.toUInt64).toInt64)), .second, .val (.int (j + (1 : Int32)))] [])) := K5.trans (by
        show Steps p.tables e below (T4.setTop (mkF m 31 #[.val (.ref a), .val (.int off), .val (.long v), .second, .val (.int (j + (1 : Int32)))] [])) _
        refine XS.lloadN X4.here hx rfl (hb hby d2_31) rfl ?_
        show Steps p.tables e below (T4.setTop (mkF m 32 #[.val (.ref a), .val (.int off), .val (.long v), .second, .val (.int (j + (1 : Int32)))] [(.long v)])) _
        refine XS.bipush X4.here hx rfl (hb hby d2_32) ?_
        show Steps p.tables e below (T4.setTop (mkF m 34 #[.val (.ref a), .val (.int off), .val (.long v), .second, .val (.int (j + (1 : Int32)))] [(.int (7 : Int32)), (.long v)])) _
        refine XS.lushr X4.here hx rfl (hb hby d2_34) rfl ?_
        show Steps p.tables e below (T4.setTop (mkF m 35 #[.val (.ref a), .val (.int off), .val (.long v), .second, .val (.int (j + (1 : Int32)))] [(.long ((v.toUInt64 >>> ((7 : Int32) &&& 0x3f).toInt64.toUInt64).toInt64))])) _
        refine XS.lstoreN X4.here hx rfl (hb hby d2_35) rfl (l' := #[.val (.ref a), .val (.int off), .val (.long ((v.toUInt64 >>> ((7 : Int32) &&& 0x3f).toInt64.toUInt64).toInt64)), .second, .val (.int (j + (1 : Int32)))]) rfl ?_
        show Steps p.tables e below (T4.setTop (mkF m 36 #[.val (.ref a), .val (.int off), .val (.long ((v.toUInt64 >>> ((7 : Int32) &&& 0x3f).toInt64.toUInt64).toInt64)), .second, .val (.int (j + (1 : Int32)))] [])) _
        refine XS.goto X4.here hx rfl (pc0 := 36) (pc' := 3) rfl (hb hby d2_36) (by decide) (by decide) ?_
        show Steps p.tables e below (T4.setTop (mkF m 3 #[.val (.ref a), .val (.int off), .val (.long ((v.toUInt64 >>> ((7 : Int32) &&& 0x3f).toInt64.toUInt64).toInt64)), .second, .val (.int (j + (1 : Int32)))] [])) _
        exact Steps.refl _)
      have z : wl (k + 1) vs v j = wl k (vs.set j.toNatClampNeg (own_E v)) ((v.toUInt64 >>> ((7 : Int32) &&& 0x3f).toInt64.toUInt64).toInt64) (j + (1 : Int32)) := by simp only [wl]; rw [if_neg hc10]
      rw [z]
      obtain ⟨T', L', h', X', e', N', Kp', V', S'⟩ := ih T4 _ h4 _ _ _ X4 e4 N4 (own_next _ _ hv) (own_jn _ _ hj) (by rw [List.length_set]; exact hl) Vw4
      exact ⟨T', L', h', X', e', N', (Keep.of_wr W4).trans Kp' (fun x hx => Or.inl hx), V', K6.trans S'⟩
theorem d2_0 : decode prog_28_method_3_code 0 = .ok (.iload_n 1, 1) := by decide +kernel
theorem d2_1 : decode prog_28_method_3_code 1 = .ok (.istore 4, 2) := by decide +kernel
theorem d2_39 : decode prog_28_method_3_code 39 = .ok (.aload_n 0, 1) := by decide +kernel
theorem d2_40 : decode prog_28_method_3_code 40 = .ok (.iload 4, 2) := by decide +kernel
theorem d2_42 : decode prog_28_method_3_code 42 = .ok (.iinc 4 1, 3) := by decide +kernel
theorem d2_45 : decode prog_28_method_3_code 45 = .ok (.lload_n 2, 1) := by decide +kernel
theorem d2_46 : decode prog_28_method_3_code 46 = .ok (.l2i, 1) := by decide +kernel
theorem d2_47 : decode prog_28_method_3_code 47 = .ok (.i2b, 1) := by decide +kernel
theorem d2_48 : decode prog_28_method_3_code 48 = .ok (.bastore, 1) := by decide +kernel
theorem d2_49 : decode prog_28_method_3_code 49 = .ok (.iload 4, 2) := by decide +kernel
def f_rm2 (p1 : Int32) (q2 : Int64) (vs0 : List Value) : Int32 := ((wl 8 vs0 q2 p1).2.2 + (1 : Int32))
def Q_rm2 (Z : State) (o0 : Addr) (p1 : Int32) (q2 : Int64) (k0 : ClassId) (vs0 : List Value) (h0 : Heap) (n0 : Nat) (v : Option Value) (h : Heap) (L : List Loc) : Prop := v = some (.int (f_rm2 p1 q2 vs0)) ∧ Fr n0 L ∧ Keep h0 h [o0] ∧ Arv Z h o0 k0 .byte (16 : Int32) ((wl 8 vs0 q2 p1).1.set (wl 8 vs0 q2 p1).2.2.toNatClampNeg (.int ((((wl 8 vs0 q2 p1).2.1.toInt32).toInt8.toInt32).toInt8.toInt32))) (.int (0 : Int32))
theorem pn_2 : plainName "com/example/windward/windward/storage/VarInts" = true := by first | (simp [plainName, overriddenIn]; done) | decide +kernel
theorem ef_2 (m : MethodId) (x0 : Addr) (x1 : Int32) (x2 : Int64) : entryFrame m #[(.ref x0), (.int x1), (.long x2)] 5 = mkF m 0 #[.val (.ref x0), .val (.int x1), .val (.long x2), .second, .unset] [] := by first | (simp [entryFrame, mkF, argsToLocals, Value.category]; done) | rfl
theorem d2_51 : decode prog_28_method_3_code 51 = .ok (.ireturn, 1) := by decide +kernel
set_option maxRecDepth 65536 in
set_option maxHeartbeats 40000000 in
theorem rm2 (l : Launch) (Z : State) (a0 : Array Value) (hw : ∀ d ∈ tables_1, d.before a0 Z = true) (ws : List Jvm.Cond) (o0 : Addr) (p1 : Int32) (q2 : Int64) (k0 : ClassId) (vs0 : List Value) (h0 : Heap) (n0 : Nat) (Z0 : n0 ≤ h0.size) (V_o0 : Arv Z h0 o0 k0 .byte (16 : Int32) vs0 (.int (0 : Int32))) (g_o0 : n0 ≤ o0) (hv : 0 ≤ q2.toInt ∧ q2.toInt < 2 ^ (7 * (8 + 1))) (hj : 0 ≤ p1.toInt ∧ p1.toInt + ((8 : Nat) : Int) ≤ 15) (hl : vs0.length = 16) (hbb : (¬ ((wl 8 vs0 q2 p1).2.2 < (0 : Int32))) ∧ (wl 8 vs0 q2 p1).2.2 < (16 : Int32)) (hb2 : (wl 8 vs0 q2 p1).2.2.toNatClampNeg < (wl 8 vs0 q2 p1).1.length) :
    MetFree l (⟨"com/example/windward/windward/storage/VarInts", "write", "([BIJ)I"⟩ : MethodName) (head1 (Jvm.Cond.code (⟨"com/example/windward/windward/storage/VarInts", "write", "([BIJ)I"⟩ : MethodName) prog_28_method_3_code 5 (some .int) :: ws) ({ frames := 0, cells := 0, slots := 0, locals := 0 } : Room)) (fun a U => a = #[(.ref o0), (.int p1), (.long q2)] ∧ Z.Warmed39 U.vm ∧ U.heap = h0) (fun _ _ _ _ _ => True) (fun _ U o U' => ∃ v L, o = .returned v ∧ Q_rm2 Z o0 p1 q2 k0 vs0 h0 n0 v U'.heap L ∧ FrameEnd U o U' L ({ frames := 0, cells := 0, slots := 0, locals := 0 } : Room).cells ({ frames := 0, cells := 0, slots := 0, locals := 0 } : Room).slots) := by
  refine MetFree.of_bodySF (plainFor_of_name pn_2) hisR ?_
  intro p e s m args below meth c s₁ Bd hml0 hP hK
  obtain ⟨rfl, hZ, hh⟩ := hP
  have hx := Bd.exec
  have hby := Bd.bytes
  have hml : c.maxLocals = 5 := hml0
  have hown : s.vm.findClass "com/example/windward/windward/storage/VarInts" = some m.cls := findClass_of_methodNamed Bd.named
  have hnm := (name_of_methodNamed Bd.named Bd.method).1
  have X0 : Stand p l e ({ frames := 0, cells := 0, slots := 0, locals := 0 } : Room) s m #[(.ref o0), (.int p1), (.long q2)] below meth c s₁ [] 0 0 := Stand.of_body Bd
  have e0 : s₁.heap = h0 := by rw [← hh, Bd.state]; rfl
  have N0 := Fr.nil n0
  have Kp0 : Keep h0 h0 [o0] := Keep.refl _ _
  have K0 : Steps p.tables e below (s₁.setTop (entryFrame m #[(.ref o0), (.int p1), (.long q2)] 5)) (s₁.setTop (mkF m 0 #[.val (.ref o0), .val (.int p1), .val (.long q2), .second, .unset] [])) := castTop (ef_2 m o0 p1 q2) (Steps.refl _)
  have K1 : Steps p.tables e below _ (s₁.setTop (mkF m 3 #[.val (.ref o0), .val (.int p1), .val (.long q2), .second, .val (.int p1)] [])) := K0.trans (by
    show Steps p.tables e below (s₁.setTop (mkF m 0 #[.val (.ref o0), .val (.int p1), .val (.long q2), .second, .unset] [])) _
    refine XS.iloadN X0.here hx rfl (hb hby d2_0) rfl ?_
    show Steps p.tables e below (s₁.setTop (mkF m 1 #[.val (.ref o0), .val (.int p1), .val (.long q2), .second, .unset] [(.int p1)])) _
    refine XS.istore X0.here hx rfl (hb hby d2_1) rfl (l' := #[.val (.ref o0), .val (.int p1), .val (.long q2), .second, .val (.int p1)]) rfl ?_
    show Steps p.tables e below (s₁.setTop (mkF m 3 #[.val (.ref o0), .val (.int p1), .val (.long q2), .second, .val (.int p1)] [])) _
    exact Steps.refl _)
  obtain ⟨T3, L3, h3, X3, e3, N3, Kp3, V3, S3⟩ := wloop hx hZ hw hby hml hown g_o0 8 s₁ _ _ vs0 q2 p1 X0 e0 N0 hv hj hl V_o0
  have K2 := K1.trans S3
  have K4 : Steps p.tables e below _ (T3.setTop (mkF m 48 #[.val (.ref o0), .val (.int p1), .val (.long (wl 8 vs0 q2 p1).2.1), .second, .val (.int ((wl 8 vs0 q2 p1).2.2 + (1 : Int32)))] [(.int (((wl 8 vs0 q2 p1).2.1.toInt32).toInt8.toInt32)), (.int (wl 8 vs0 q2 p1).2.2), (.ref o0)])) := K2.trans (by
    show Steps p.tables e below (T3.setTop (mkF m 39 #[.val (.ref o0), .val (.int p1), .val (.long (wl 8 vs0 q2 p1).2.1), .second, .val (.int (wl 8 vs0 q2 p1).2.2)] [])) _
    refine XS.aloadN X3.here hx rfl (hb hby d2_39) rfl rfl ?_
    show Steps p.tables e below (T3.setTop (mkF m 40 #[.val (.ref o0), .val (.int p1), .val (.long (wl 8 vs0 q2 p1).2.1), .second, .val (.int (wl 8 vs0 q2 p1).2.2)] [(.ref o0)])) _
    refine XS.iload X3.here hx rfl (hb hby d2_40) rfl ?_
    show Steps p.tables e below (T3.setTop (mkF m 42 #[.val (.ref o0), .val (.int p1), .val (.long (wl 8 vs0 q2 p1).2.1), .second, .val (.int (wl 8 vs0 q2 p1).2.2)] [(.int (wl 8 vs0 q2 p1).2.2), (.ref o0)])) _
    refine XS.iinc X3.here hx rfl (hb hby d2_42) rfl (l' := #[.val (.ref o0), .val (.int p1), .val (.long (wl 8 vs0 q2 p1).2.1), .second, .val (.int ((wl 8 vs0 q2 p1).2.2 + (1 : Int32)))]) rfl ?_
    show Steps p.tables e below (T3.setTop (mkF m 45 #[.val (.ref o0), .val (.int p1), .val (.long (wl 8 vs0 q2 p1).2.1), .second, .val (.int ((wl 8 vs0 q2 p1).2.2 + (1 : Int32)))] [(.int (wl 8 vs0 q2 p1).2.2), (.ref o0)])) _
    refine XS.lloadN X3.here hx rfl (hb hby d2_45) rfl ?_
    show Steps p.tables e below (T3.setTop (mkF m 46 #[.val (.ref o0), .val (.int p1), .val (.long (wl 8 vs0 q2 p1).2.1), .second, .val (.int ((wl 8 vs0 q2 p1).2.2 + (1 : Int32)))] [(.long (wl 8 vs0 q2 p1).2.1), (.int (wl 8 vs0 q2 p1).2.2), (.ref o0)])) _
    refine XS.l2i X3.here hx rfl (hb hby d2_46) rfl ?_
    show Steps p.tables e below (T3.setTop (mkF m 47 #[.val (.ref o0), .val (.int p1), .val (.long (wl 8 vs0 q2 p1).2.1), .second, .val (.int ((wl 8 vs0 q2 p1).2.2 + (1 : Int32)))] [(.int ((wl 8 vs0 q2 p1).2.1.toInt32)), (.int (wl 8 vs0 q2 p1).2.2), (.ref o0)])) _
    refine XS.i2b X3.here hx rfl (hb hby d2_47) rfl ?_
    show Steps p.tables e below (T3.setTop (mkF m 48 #[.val (.ref o0), .val (.int p1), .val (.long (wl 8 vs0 q2 p1).2.1), .second, .val (.int ((wl 8 vs0 q2 p1).2.2 + (1 : Int32)))] [(.int (((wl 8 vs0 q2 p1).2.1.toInt32).toInt8.toInt32)), (.int (wl 8 vs0 q2 p1).2.2), (.ref o0)])) _
    exact Steps.refl _)
  obtain ⟨T5, h5, X5, e5, W5, V5, st5⟩ := own_stB X3 hx hZ e3 V3 (j := (wl 8 vs0 q2 p1).2.2) hbb (wl 8 vs0 q2 p1).2.2.toNatClampNeg rfl hb2 (g := (mkF m 48 #[.val (.ref o0), .val (.int p1), .val (.long (wl 8 vs0 q2 p1).2.1), .second, .val (.int ((wl 8 vs0 q2 p1).2.2 + (1 : Int32)))] [(.int (((wl 8 vs0 q2 p1).2.1.toInt32).toInt8.toInt32)), (.int (wl 8 vs0 q2 p1).2.2), (.ref o0)])) rfl rfl (hb hby d2_48)
  have K6 : Steps p.tables e below _ (T5.setTop (mkF m 49 #[.val (.ref o0), .val (.int p1), .val (.long (wl 8 vs0 q2 p1).2.1), .second, .val (.int ((wl 8 vs0 q2 p1).2.2 + (1 : Int32)))] [])) := K4.trans st5
  have Vw5 : Arv Z h5 o0 k0 .byte (16 : Int32) ((wl 8 vs0 q2 p1).1.set (wl 8 vs0 q2 p1).2.2.toNatClampNeg (.int ((((wl 8 vs0 q2 p1).2.1.toInt32).toInt8.toInt32).toInt8.toInt32))) (.int (0 : Int32)) := V5
  have N5 := Fr.snoc X5 N3 g_o0
  have K7 : Steps p.tables e below _ (T5.setTop (mkF m 51 #[.val (.ref o0), .val (.int p1), .val (.long (wl 8 vs0 q2 p1).2.1), .second, .val (.int ((wl 8 vs0 q2 p1).2.2 + (1 : Int32)))] [(.int ((wl 8 vs0 q2 p1).2.2 + (1 : Int32)))])) := K6.trans (by
    show Steps p.tables e below (T5.setTop (mkF m 49 #[.val (.ref o0), .val (.int p1), .val (.long (wl 8 vs0 q2 p1).2.1), .second, .val (.int ((wl 8 vs0 q2 p1).2.2 + (1 : Int32)))] [])) _
    refine XS.iload X5.here hx rfl (hb hby d2_49) rfl ?_
    show Steps p.tables e below (T5.setTop (mkF m 51 #[.val (.ref o0), .val (.int p1), .val (.long (wl 8 vs0 q2 p1).2.1), .second, .val (.int ((wl 8 vs0 q2 p1).2.2 + (1 : Int32)))] [(.int ((wl 8 vs0 q2 p1).2.2 + (1 : Int32)))])) _
    exact Steps.refl _)
  obtain ⟨fs, hr, hrun, hended, hW, hsame⟩ := X5.leave (v := some (.int ((wl 8 vs0 q2 p1).2.2 + (1 : Int32)))) (fun h => by rw [Bd.returns] at h; cases h)
  have K_8 : Keep h0 h5 [o0] := ((Kp0.trans Kp3 (allS (Or.inl (List.mem_of_getElem? (i := 0) rfl)) all0)).wr W5 (Or.inl (List.mem_of_getElem? (i := 0) rfl)))
  refine ⟨_, _, K7.trans (retOut X5 hx Bd.returns rfl (Or.inl ⟨rfl, Or.inl rfl, _, rfl⟩) (hb hby d2_51) hr), hrun, hended, _, _, rfl, ?_, ⟨_, rfl⟩, hW, hsame.mono (by decide) (by first | decide | omega)⟩
  show Q_rm2 Z o0 p1 q2 k0 vs0 h0 n0 _ T5.heap _
  rw [e5]
  exact ⟨rfl, N5, K_8, Vw5⟩
theorem d1_0 : decode method_3_code 0 = .ok (.lload_n 0, 1) := by decide +kernel
theorem d1_1 : decode method_3_code 1 = .ok (.bipush 7, 2) := by decide +kernel
theorem d1_3 : decode method_3_code 3 = .ok (.iload_n 2, 1) := by decide +kernel
theorem d1_4 : decode method_3_code 4 = .ok (.imul, 1) := by decide +kernel
theorem d1_5 : decode method_3_code 5 = .ok (.lushr, 1) := by decide +kernel
theorem d1_6 : decode method_3_code 6 = .ok (.lconst 0, 1) := by decide +kernel
theorem d1_7 : decode method_3_code 7 = .ok (.lcmp, 1) := by decide +kernel
theorem d1_8 : decode method_3_code 8 = .ok (.ifCond .eq 7, 3) := by decide +kernel
theorem d1_15 : decode method_3_code 15 = .ok (.iconst 0, 1) := by decide +kernel
theorem d1_11 : decode method_3_code 11 = .ok (.iconst 1, 1) := by decide +kernel
theorem d1_12 : decode method_3_code 12 = .ok (.goto 4, 3) := by decide +kernel
def f_rm1 (q0 : Int64) (p1 : Int32) : Int32 := (if ((q0.toUInt64 >>> (((7 : Int32) * p1) &&& 0x3f).toInt64.toUInt64).toInt64) = (0 : Int64) then (0 : Int32) else (1 : Int32))
def Q_rm1 (Z : State) (q0 : Int64) (p1 : Int32) (h0 : Heap) (n0 : Nat) (v : Option Value) (h : Heap) (L : List Loc) : Prop := v = some (.int (f_rm1 q0 p1)) ∧ Fr n0 L ∧ h = h0
theorem pn_1 : plainName "com/example/windward/windward/storage/VarIntsWritePinLaw" = true := by first | (simp [plainName, overriddenIn]; done) | decide +kernel
theorem ef_1 (m : MethodId) (x0 : Int64) (x1 : Int32) : entryFrame m #[(.long x0), (.int x1)] 3 = mkF m 0 #[.val (.long x0), .second, .val (.int x1)] [] := by first | (simp [entryFrame, mkF, argsToLocals, Value.category]; done) | rfl
theorem d1_16 : decode method_3_code 16 = .ok (.ireturn, 1) := by decide +kernel
set_option maxRecDepth 65536 in
set_option maxHeartbeats 40000000 in
theorem rm1 (l : Launch) (Z : State) (a0 : Array Value) (hw : ∀ d ∈ tables_1, d.before a0 Z = true) (ws : List Jvm.Cond) (q0 : Int64) (p1 : Int32) (h0 : Heap) (n0 : Nat) (Z0 : n0 ≤ h0.size) :
    MetFree l (⟨"com/example/windward/windward/storage/VarIntsWritePinLaw", "more", "(JI)I"⟩ : MethodName) (head1 (Jvm.Cond.code (⟨"com/example/windward/windward/storage/VarIntsWritePinLaw", "more", "(JI)I"⟩ : MethodName) method_3_code 3 (some .int) :: ws) ({ frames := 0, cells := 0, slots := 0, locals := 0 } : Room)) (fun a U => a = #[(.long q0), (.int p1)] ∧ Z.Warmed39 U.vm ∧ U.heap = h0) (fun _ _ _ _ _ => True) (fun _ U o U' => ∃ v L, o = .returned v ∧ Q_rm1 Z q0 p1 h0 n0 v U'.heap L ∧ FrameEnd U o U' L ({ frames := 0, cells := 0, slots := 0, locals := 0 } : Room).cells ({ frames := 0, cells := 0, slots := 0, locals := 0 } : Room).slots) := by
  refine MetFree.of_bodySF (plainFor_of_name pn_1) hisR ?_
  intro p e s m args below meth c s₁ Bd hml0 hP hK
  obtain ⟨rfl, hZ, hh⟩ := hP
  have hx := Bd.exec
  have hby := Bd.bytes
  have hml : c.maxLocals = 3 := hml0
  have hown : s.vm.findClass "com/example/windward/windward/storage/VarIntsWritePinLaw" = some m.cls := findClass_of_methodNamed Bd.named
  have hnm := (name_of_methodNamed Bd.named Bd.method).1
  have X0 : Stand p l e ({ frames := 0, cells := 0, slots := 0, locals := 0 } : Room) s m #[(.long q0), (.int p1)] below meth c s₁ [] 0 0 := Stand.of_body Bd
  have e0 : s₁.heap = h0 := by rw [← hh, Bd.state]; rfl
  have N0 := Fr.nil n0
  have Kp0 : Keep h0 h0 [] := Keep.refl _ _
  have K0 : Steps p.tables e below (s₁.setTop (entryFrame m #[(.long q0), (.int p1)] 3)) (s₁.setTop (mkF m 0 #[.val (.long q0), .second, .val (.int p1)] [])) := castTop (ef_1 m q0 p1) (Steps.refl _)
  have K1 : Steps p.tables e below _ (s₁.setTop (mkF m 8 #[.val (.long q0), .second, .val (.int p1)] [(.int (lcmpW ((q0.toUInt64 >>> (((7 : Int32) * p1) &&& 0x3f).toInt64.toUInt64).toInt64) (0 : Int64)))])) := K0.trans (by
    show Steps p.tables e below (s₁.setTop (mkF m 0 #[.val (.long q0), .second, .val (.int p1)] [])) _
    refine XS.lloadN X0.here hx rfl (hb hby d1_0) rfl ?_
    show Steps p.tables e below (s₁.setTop (mkF m 1 #[.val (.long q0), .second, .val (.int p1)] [(.long q0)])) _
    refine XS.bipush X0.here hx rfl (hb hby d1_1) ?_
    show Steps p.tables e below (s₁.setTop (mkF m 3 #[.val (.long q0), .second, .val (.int p1)] [(.int (7 : Int32)), (.long q0)])) _
    refine XS.iloadN X0.here hx rfl (hb hby d1_3) rfl ?_
    show Steps p.tables e below (s₁.setTop (mkF m 4 #[.val (.long q0), .second, .val (.int p1)] [(.int p1), (.int (7 : Int32)), (.long q0)])) _
    refine XS.imul X0.here hx rfl (hb hby d1_4) rfl ?_
    show Steps p.tables e below (s₁.setTop (mkF m 5 #[.val (.long q0), .second, .val (.int p1)] [(.int ((7 : Int32) * p1)), (.long q0)])) _
    refine XS.lushr X0.here hx rfl (hb hby d1_5) rfl ?_
    show Steps p.tables e below (s₁.setTop (mkF m 6 #[.val (.long q0), .second, .val (.int p1)] [(.long ((q0.toUInt64 >>> (((7 : Int32) * p1) &&& 0x3f).toInt64.toUInt64).toInt64))])) _
    refine XS.lconst X0.here hx rfl (hb hby d1_6) ?_
    show Steps p.tables e below (s₁.setTop (mkF m 7 #[.val (.long q0), .second, .val (.int p1)] [(.long (0 : Int64)), (.long ((q0.toUInt64 >>> (((7 : Int32) * p1) &&& 0x3f).toInt64.toUInt64).toInt64))])) _
    refine XS.lcmp X0.here hx rfl (hb hby d1_7) rfl ?_
    show Steps p.tables e below (s₁.setTop (mkF m 8 #[.val (.long q0), .second, .val (.int p1)] [(.int (lcmpW ((q0.toUInt64 >>> (((7 : Int32) * p1) &&& 0x3f).toInt64.toUInt64).toInt64) (0 : Int64)))])) _
    exact Steps.refl _)
  obtain ⟨v2_0, hv2_0, S2⟩ : ∃ (v2_0 : Int32), (if ((q0.toUInt64 >>> (((7 : Int32) * p1) &&& 0x3f).toInt64.toUInt64).toInt64) = (0 : Int64) then (0 : Int32) else (1 : Int32)) = v2_0 ∧ Steps p.tables e below (s₁.setTop (mkF m 8 #[.val (.long q0), .second, .val (.int p1)] [(.int (lcmpW ((q0.toUInt64 >>> (((7 : Int32) * p1) &&& 0x3f).toInt64.toUInt64).toInt64) (0 : Int64)))])) (s₁.setTop (mkF m 16 #[.val (.long q0), .second, .val (.int p1)] [(.int v2_0)])) := by
    have R2 := Steps.refl (tb := p.tables) (e := e) (below := below) (s₁.setTop (mkF m 8 #[.val (.long q0), .second, .val (.int p1)] [(.int (lcmpW ((q0.toUInt64 >>> (((7 : Int32) * p1) &&& 0x3f).toInt64.toUInt64).toInt64) (0 : Int64)))]))
    by_cases hc8 : ((q0.toUInt64 >>> (((7 : Int32) * p1) &&& 0x3f).toInt64.toUInt64).toInt64) = (0 : Int64)
    · have K3 : Steps p.tables e below _ (s₁.setTop (mkF m 16 #[.val (.long q0), .second, .val (.int p1)] [(.int (0 : Int32))])) := R2.trans (by
        show Steps p.tables e below (s₁.setTop (mkF m 8 #[.val (.long q0), .second, .val (.int p1)] [(.int (lcmpW ((q0.toUInt64 >>> (((7 : Int32) * p1) &&& 0x3f).toInt64.toUInt64).toInt64) (0 : Int64)))])) _
        refine XS.ifYes X0.here hx rfl (pc0 := 8) (pc' := 15) rfl (hb hby d1_8) rfl ((if0 _ _).trans (teq ((lw_eq ((q0.toUInt64 >>> (((7 : Int32) * p1) &&& 0x3f).toInt64.toUInt64).toInt64) (0 : Int64)).mpr hc8)).1) (by decide) (by decide) ?_
        show Steps p.tables e below (s₁.setTop (mkF m 15 #[.val (.long q0), .second, .val (.int p1)] [])) _
        refine XS.iconst X0.here hx rfl (hb hby d1_15) ?_
        show Steps p.tables e below (s₁.setTop (mkF m 16 #[.val (.long q0), .second, .val (.int p1)] [(.int (0 : Int32))])) _
        exact Steps.refl _)
      exact ⟨(0 : Int32), (by rw [if_pos hc8]), K3⟩
    · have K4 : Steps p.tables e below _ (s₁.setTop (mkF m 16 #[.val (.long q0), .second, .val (.int p1)] [(.int (1 : Int32))])) := R2.trans (by
        show Steps p.tables e below (s₁.setTop (mkF m 8 #[.val (.long q0), .second, .val (.int p1)] [(.int (lcmpW ((q0.toUInt64 >>> (((7 : Int32) * p1) &&& 0x3f).toInt64.toUInt64).toInt64) (0 : Int64)))])) _
        refine XS.ifNo X0.here hx rfl (hb hby d1_8) rfl ((if0 _ _).trans (feq (fun z => hc8 ((lw_eq ((q0.toUInt64 >>> (((7 : Int32) * p1) &&& 0x3f).toInt64.toUInt64).toInt64) (0 : Int64)).mp z))).1) ?_
        show Steps p.tables e below (s₁.setTop (mkF m 11 #[.val (.long q0), .second, .val (.int p1)] [])) _
        refine XS.iconst X0.here hx rfl (hb hby d1_11) ?_
        show Steps p.tables e below (s₁.setTop (mkF m 12 #[.val (.long q0), .second, .val (.int p1)] [(.int (1 : Int32))])) _
        refine XS.goto X0.here hx rfl (pc0 := 12) (pc' := 16) rfl (hb hby d1_12) (by decide) (by decide) ?_
        show Steps p.tables e below (s₁.setTop (mkF m 16 #[.val (.long q0), .second, .val (.int p1)] [(.int (1 : Int32))])) _
        exact Steps.refl _)
      exact ⟨(1 : Int32), (by rw [if_neg hc8]), K4⟩
  have K5 := K1.trans S2
  subst hv2_0
  obtain ⟨fs, hr, hrun, hended, hW, hsame⟩ := X0.leave (v := some (.int (if ((q0.toUInt64 >>> (((7 : Int32) * p1) &&& 0x3f).toInt64.toUInt64).toInt64) = (0 : Int64) then (0 : Int32) else (1 : Int32)))) (fun h => by rw [Bd.returns] at h; cases h)
  refine ⟨_, _, K5.trans (retOut X0 hx Bd.returns rfl (Or.inl ⟨rfl, Or.inl rfl, _, rfl⟩) (hb hby d1_16) hr), hrun, hended, _, _, rfl, ?_, ⟨_, rfl⟩, hW, hsame.mono (by decide) (by first | decide | omega)⟩
  show Q_rm1 Z q0 p1 h0 n0 _ s₁.heap _
  rw [e0]
  exact ⟨rfl, N0, rfl⟩
theorem d3_0 : decode method_4_code 0 = .ok (.iload_n 1, 1) := by decide +kernel
theorem d3_1 : decode method_4_code 1 = .ok (.iload_n 2, 1) := by decide +kernel
theorem d3_2 : decode method_4_code 2 = .ok (.if_icmp .lt 10, 3) := by decide +kernel
theorem d3_12 : decode method_4_code 12 = .ok (.aload_n 0, 1) := by decide +kernel
theorem d3_13 : decode method_4_code 13 = .ok (.iload_n 1, 1) := by decide +kernel
theorem d3_14 : decode method_4_code 14 = .ok (.baload, 1) := by decide +kernel
theorem d3_15 : decode method_4_code 15 = .ok (.iload 6, 2) := by decide +kernel
theorem d3_17 : decode method_4_code 17 = .ok (.if_icmp .ne 7, 3) := by decide +kernel
theorem d3_20 : decode method_4_code 20 = .ok (.iconst 1, 1) := by decide +kernel
theorem d3_21 : decode method_4_code 21 = .ok (.goto 4, 3) := by decide +kernel
theorem d3_24 : decode method_4_code 24 = .ok (.iconst 0, 1) := by decide +kernel
theorem d3_5 : decode method_4_code 5 = .ok (.iload_n 1, 1) := by decide +kernel
theorem d3_6 : decode method_4_code 6 = .ok (.iload_n 2, 1) := by decide +kernel
theorem d3_7 : decode method_4_code 7 = .ok (.iload_n 3, 1) := by decide +kernel
theorem d3_8 : decode method_4_code 8 = .ok (.iadd, 1) := by decide +kernel
theorem d3_9 : decode method_4_code 9 = .ok (.if_icmp .lt 17, 3) := by decide +kernel
theorem d3_26 : decode method_4_code 26 = .ok (.iload_n 1, 1) := by decide +kernel
theorem d3_27 : decode method_4_code 27 = .ok (.iload_n 2, 1) := by decide +kernel
theorem d3_28 : decode method_4_code 28 = .ok (.isub, 1) := by decide +kernel
theorem d3_29 : decode method_4_code 29 = .ok (.istore 7, 2) := by decide +kernel
theorem d3_31 : decode method_4_code 31 = .ok (.lload 4, 2) := by decide +kernel
theorem d3_33 : decode method_4_code 33 = .ok (.bipush 7, 2) := by decide +kernel
theorem d3_35 : decode method_4_code 35 = .ok (.iload 7, 2) := by decide +kernel
theorem d3_37 : decode method_4_code 37 = .ok (.imul, 1) := by decide +kernel
theorem d3_38 : decode method_4_code 38 = .ok (.lushr, 1) := by decide +kernel
theorem d3_39 : decode method_4_code 39 = .ok (.ldc2_w 27, 3) := by decide +kernel
theorem d3_42 : decode method_4_code 42 = .ok (.land, 1) := by decide +kernel
theorem d3_43 : decode method_4_code 43 = .ok (.l2i, 1) := by decide +kernel
theorem d3_44 : decode method_4_code 44 = .ok (.istore 8, 2) := by decide +kernel
theorem d3_46 : decode method_4_code 46 = .ok (.iload 7, 2) := by decide +kernel
theorem d3_48 : decode method_4_code 48 = .ok (.iload_n 3, 1) := by decide +kernel
theorem d3_49 : decode method_4_code 49 = .ok (.iconst 1, 1) := by decide +kernel
theorem d3_50 : decode method_4_code 50 = .ok (.isub, 1) := by decide +kernel
theorem d3_51 : decode method_4_code 51 = .ok (.if_icmp .ge 12, 3) := by decide +kernel
theorem d3_54 : decode method_4_code 54 = .ok (.iload 8, 2) := by decide +kernel
theorem d3_56 : decode method_4_code 56 = .ok (.sipush 128, 3) := by decide +kernel
theorem d3_59 : decode method_4_code 59 = .ok (.ior, 1) := by decide +kernel
theorem d3_60 : decode method_4_code 60 = .ok (.goto 5, 3) := by decide +kernel
theorem d3_63 : decode method_4_code 63 = .ok (.iload 8, 2) := by decide +kernel
theorem d3_65 : decode method_4_code 65 = .ok (.istore 9, 2) := by decide +kernel
theorem d3_67 : decode method_4_code 67 = .ok (.aload_n 0, 1) := by decide +kernel
theorem d3_68 : decode method_4_code 68 = .ok (.iload_n 1, 1) := by decide +kernel
theorem d3_69 : decode method_4_code 69 = .ok (.baload, 1) := by decide +kernel
theorem d3_70 : decode method_4_code 70 = .ok (.iload 9, 2) := by decide +kernel
theorem d3_72 : decode method_4_code 72 = .ok (.i2b, 1) := by decide +kernel
theorem d3_73 : decode method_4_code 73 = .ok (.if_icmp .ne 7, 3) := by decide +kernel
theorem d3_76 : decode method_4_code 76 = .ok (.iconst 1, 1) := by decide +kernel
theorem d3_77 : decode method_4_code 77 = .ok (.goto 4, 3) := by decide +kernel
theorem d3_80 : decode method_4_code 80 = .ok (.iconst 0, 1) := by decide +kernel
def f_rm3 (p1 : Int32) (p2 : Int32) (p3 : Int32) (q4 : Int64) (p5 : Int32) (w : Int32) : Int32 := (if p1 < p2 then ((if w = p5 then (1 : Int32) else (0 : Int32)) &&& 1) else (if p1 < (p2 + p3) then ((if w = ((if (p1 - p2) < (p3 - (1 : Int32)) then (((((q4.toUInt64 >>> (((7 : Int32) * (p1 - p2)) &&& 0x3f).toInt64.toUInt64).toInt64) &&& (127 : Int64)).toInt32) ||| (128 : Int32)) else ((((q4.toUInt64 >>> (((7 : Int32) * (p1 - p2)) &&& 0x3f).toInt64.toUInt64).toInt64) &&& (127 : Int64)).toInt32)).toInt8.toInt32) then (1 : Int32) else (0 : Int32)) &&& 1) else ((if w = p5 then (1 : Int32) else (0 : Int32)) &&& 1)))
def Q_rm3 (Z : State) (o0 : Addr) (p1 : Int32) (p2 : Int32) (p3 : Int32) (q4 : Int64) (p5 : Int32) (k0 : ClassId) (vs0 : List Value) (w : Int32) (h0 : Heap) (n0 : Nat) (v : Option Value) (h : Heap) (L : List Loc) : Prop := v = some (.int (f_rm3 p1 p2 p3 q4 p5 w)) ∧ Fr n0 L ∧ h = h0
theorem pn_3 : plainName "com/example/windward/windward/storage/VarIntsWritePinLaw" = true := by first | (simp [plainName, overriddenIn]; done) | decide +kernel
theorem ef_3 (m : MethodId) (x0 : Addr) (x1 : Int32) (x2 : Int32) (x3 : Int32) (x4 : Int64) (x5 : Int32) : entryFrame m #[(.ref x0), (.int x1), (.int x2), (.int x3), (.long x4), (.int x5)] 10 = mkF m 0 #[.val (.ref x0), .val (.int x1), .val (.int x2), .val (.int x3), .val (.long x4), .second, .val (.int x5), .unset, .unset, .unset] [] := by first | (simp [entryFrame, mkF, argsToLocals, Value.category]; done) | rfl
theorem d3_25 : decode method_4_code 25 = .ok (.ireturn, 1) := by decide +kernel
theorem d3_81 : decode method_4_code 81 = .ok (.ireturn, 1) := by decide +kernel
set_option maxRecDepth 65536 in
set_option maxHeartbeats 40000000 in
theorem rm3 (l : Launch) (Z : State) (a0 : Array Value) (hw : ∀ d ∈ tables_1, d.before a0 Z = true) (ws : List Jvm.Cond) (o0 : Addr) (p1 : Int32) (p2 : Int32) (p3 : Int32) (q4 : Int64) (p5 : Int32) (k0 : ClassId) (vs0 : List Value) (w : Int32) (h0 : Heap) (n0 : Nat) (Z0 : n0 ≤ h0.size) (V_o0 : Arv Z h0 o0 k0 .byte (16 : Int32) vs0 (.int (0 : Int32))) (hi : (¬ (p1 < (0 : Int32))) ∧ p1 < (16 : Int32)) (hat : vs0.getD p1.toNatClampNeg (.int (0 : Int32)) = (.int w)) :
    MetFree l (⟨"com/example/windward/windward/storage/VarIntsWritePinLaw", "at", "([BIIIJB)Z"⟩ : MethodName) (head1 (Jvm.Cond.code (⟨"com/example/windward/windward/storage/VarIntsWritePinLaw", "at", "([BIIIJB)Z"⟩ : MethodName) method_4_code 10 (some .boolean) :: ws) ({ frames := 0, cells := 0, slots := 0, locals := 0 } : Room)) (fun a U => a = #[(.ref o0), (.int p1), (.int p2), (.int p3), (.long q4), (.int p5)] ∧ Z.Warmed39 U.vm ∧ U.heap = h0) (fun _ _ _ _ _ => True) (fun _ U o U' => ∃ v L, o = .returned v ∧ Q_rm3 Z o0 p1 p2 p3 q4 p5 k0 vs0 w h0 n0 v U'.heap L ∧ FrameEnd U o U' L ({ frames := 0, cells := 0, slots := 0, locals := 0 } : Room).cells ({ frames := 0, cells := 0, slots := 0, locals := 0 } : Room).slots) := by
  refine MetFree.of_bodySF (plainFor_of_name pn_3) hisR ?_
  intro p e s m args below meth c s₁ Bd hml0 hP hK
  obtain ⟨rfl, hZ, hh⟩ := hP
  have hx := Bd.exec
  have hby := Bd.bytes
  have hml : c.maxLocals = 10 := hml0
  have hown : s.vm.findClass "com/example/windward/windward/storage/VarIntsWritePinLaw" = some m.cls := findClass_of_methodNamed Bd.named
  have hnm := (name_of_methodNamed Bd.named Bd.method).1
  have X0 : Stand p l e ({ frames := 0, cells := 0, slots := 0, locals := 0 } : Room) s m #[(.ref o0), (.int p1), (.int p2), (.int p3), (.long q4), (.int p5)] below meth c s₁ [] 0 0 := Stand.of_body Bd
  have e0 : s₁.heap = h0 := by rw [← hh, Bd.state]; rfl
  have N0 := Fr.nil n0
  have Kp0 : Keep h0 h0 [] := Keep.refl _ _
  have K0 : Steps p.tables e below (s₁.setTop (entryFrame m #[(.ref o0), (.int p1), (.int p2), (.int p3), (.long q4), (.int p5)] 10)) (s₁.setTop (mkF m 0 #[.val (.ref o0), .val (.int p1), .val (.int p2), .val (.int p3), .val (.long q4), .second, .val (.int p5), .unset, .unset, .unset] [])) := castTop (ef_3 m o0 p1 p2 p3 q4 p5) (Steps.refl _)
  have K1 : Steps p.tables e below _ (s₁.setTop (mkF m 2 #[.val (.ref o0), .val (.int p1), .val (.int p2), .val (.int p3), .val (.long q4), .second, .val (.int p5), .unset, .unset, .unset] [(.int p2), (.int p1)])) := K0.trans (by
    show Steps p.tables e below (s₁.setTop (mkF m 0 #[.val (.ref o0), .val (.int p1), .val (.int p2), .val (.int p3), .val (.long q4), .second, .val (.int p5), .unset, .unset, .unset] [])) _
    refine XS.iloadN X0.here hx rfl (hb hby d3_0) rfl ?_
    show Steps p.tables e below (s₁.setTop (mkF m 1 #[.val (.ref o0), .val (.int p1), .val (.int p2), .val (.int p3), .val (.long q4), .second, .val (.int p5), .unset, .unset, .unset] [(.int p1)])) _
    refine XS.iloadN X0.here hx rfl (hb hby d3_1) rfl ?_
    show Steps p.tables e below (s₁.setTop (mkF m 2 #[.val (.ref o0), .val (.int p1), .val (.int p2), .val (.int p3), .val (.long q4), .second, .val (.int p5), .unset, .unset, .unset] [(.int p2), (.int p1)])) _
    exact Steps.refl _)
  by_cases hc2 : p1 < p2
  · have K2 : Steps p.tables e below _ (s₁.setTop (mkF m 17 #[.val (.ref o0), .val (.int p1), .val (.int p2), .val (.int p3), .val (.long q4), .second, .val (.int p5), .unset, .unset, .unset] [(.int p5), (.int w)])) := K1.trans (by
      show Steps p.tables e below (s₁.setTop (mkF m 2 #[.val (.ref o0), .val (.int p1), .val (.int p2), .val (.int p3), .val (.long q4), .second, .val (.int p5), .unset, .unset, .unset] [(.int p2), (.int p1)])) _
      refine XS.icmpYes X0.here hx rfl (pc0 := 2) (pc' := 12) rfl (hb hby d3_2) rfl (tlt hc2).1 (by decide) (by decide) ?_
      show Steps p.tables e below (s₁.setTop (mkF m 12 #[.val (.ref o0), .val (.int p1), .val (.int p2), .val (.int p3), .val (.long q4), .second, .val (.int p5), .unset, .unset, .unset] [])) _
      refine XS.aloadN X0.here hx rfl (hb hby d3_12) rfl rfl ?_
      show Steps p.tables e below (s₁.setTop (mkF m 13 #[.val (.ref o0), .val (.int p1), .val (.int p2), .val (.int p3), .val (.long q4), .second, .val (.int p5), .unset, .unset, .unset] [(.ref o0)])) _
      refine XS.iloadN X0.here hx rfl (hb hby d3_13) rfl ?_
      show Steps p.tables e below (s₁.setTop (mkF m 14 #[.val (.ref o0), .val (.int p1), .val (.int p2), .val (.int p3), .val (.long q4), .second, .val (.int p5), .unset, .unset, .unset] [(.int p1), (.ref o0)])) _
      refine (own_ldB X0 hx hZ e0 V_o0 (j := p1) hi hat (g := (mkF m 14 #[.val (.ref o0), .val (.int p1), .val (.int p2), .val (.int p3), .val (.long q4), .second, .val (.int p5), .unset, .unset, .unset] [(.int p1), (.ref o0)])) rfl rfl (hb hby d3_14)).trans ?_
      show Steps p.tables e below (s₁.setTop (mkF m 15 #[.val (.ref o0), .val (.int p1), .val (.int p2), .val (.int p3), .val (.long q4), .second, .val (.int p5), .unset, .unset, .unset] [(.int w)])) _
      refine XS.iload X0.here hx rfl (hb hby d3_15) rfl ?_
      show Steps p.tables e below (s₁.setTop (mkF m 17 #[.val (.ref o0), .val (.int p1), .val (.int p2), .val (.int p3), .val (.long q4), .second, .val (.int p5), .unset, .unset, .unset] [(.int p5), (.int w)])) _
      exact Steps.refl _)
    obtain ⟨v3_0, hv3_0, S3⟩ : ∃ (v3_0 : Int32), (if w = p5 then (1 : Int32) else (0 : Int32)) = v3_0 ∧ Steps p.tables e below (s₁.setTop (mkF m 17 #[.val (.ref o0), .val (.int p1), .val (.int p2), .val (.int p3), .val (.long q4), .second, .val (.int p5), .unset, .unset, .unset] [(.int p5), (.int w)])) (s₁.setTop (mkF m 25 #[.val (.ref o0), .val (.int p1), .val (.int p2), .val (.int p3), .val (.long q4), .second, .val (.int p5), .unset, .unset, .unset] [(.int v3_0)])) := by
      have R3 := Steps.refl (tb := p.tables) (e := e) (below := below) (s₁.setTop (mkF m 17 #[.val (.ref o0), .val (.int p1), .val (.int p2), .val (.int p3), .val (.long q4), .second, .val (.int p5), .unset, .unset, .unset] [(.int p5), (.int w)]))
      by_cases hc17 : w = p5
      · have K4 : Steps p.tables e below _ (s₁.setTop (mkF m 25 #[.val (.ref o0), .val (.int p1), .val (.int p2), .val (.int p3), .val (.long q4), .second, .val (.int p5), .unset, .unset, .unset] [(.int (1 : Int32))])) := R3.trans (by
          show Steps p.tables e below (s₁.setTop (mkF m 17 #[.val (.ref o0), .val (.int p1), .val (.int p2), .val (.int p3), .val (.long q4), .second, .val (.int p5), .unset, .unset, .unset] [(.int p5), (.int w)])) _
          refine XS.icmpNo X0.here hx rfl (hb hby d3_17) rfl (teq hc17).2 ?_
          show Steps p.tables e below (s₁.setTop (mkF m 20 #[.val (.ref o0), .val (.int p1), .val (.int p2), .val (.int p3), .val (.long q4), .second, .val (.int p5), .unset, .unset, .unset] [])) _
          refine XS.iconst X0.here hx rfl (hb hby d3_20) ?_
          show Steps p.tables e below (s₁.setTop (mkF m 21 #[.val (.ref o0), .val (.int p1), .val (.int p2), .val (.int p3), .val (.long q4), .second, .val (.int p5), .unset, .unset, .unset] [(.int (1 : Int32))])) _
          refine XS.goto X0.here hx rfl (pc0 := 21) (pc' := 25) rfl (hb hby d3_21) (by decide) (by decide) ?_
          show Steps p.tables e below (s₁.setTop (mkF m 25 #[.val (.ref o0), .val (.int p1), .val (.int p2), .val (.int p3), .val (.long q4), .second, .val (.int p5), .unset, .unset, .unset] [(.int (1 : Int32))])) _
          exact Steps.refl _)
        exact ⟨(1 : Int32), (by rw [if_pos hc17]), K4⟩
      · have K5 : Steps p.tables e below _ (s₁.setTop (mkF m 25 #[.val (.ref o0), .val (.int p1), .val (.int p2), .val (.int p3), .val (.long q4), .second, .val (.int p5), .unset, .unset, .unset] [(.int (0 : Int32))])) := R3.trans (by
          show Steps p.tables e below (s₁.setTop (mkF m 17 #[.val (.ref o0), .val (.int p1), .val (.int p2), .val (.int p3), .val (.long q4), .second, .val (.int p5), .unset, .unset, .unset] [(.int p5), (.int w)])) _
          refine XS.icmpYes X0.here hx rfl (pc0 := 17) (pc' := 24) rfl (hb hby d3_17) rfl (feq hc17).2 (by decide) (by decide) ?_
          show Steps p.tables e below (s₁.setTop (mkF m 24 #[.val (.ref o0), .val (.int p1), .val (.int p2), .val (.int p3), .val (.long q4), .second, .val (.int p5), .unset, .unset, .unset] [])) _
          refine XS.iconst X0.here hx rfl (hb hby d3_24) ?_
          show Steps p.tables e below (s₁.setTop (mkF m 25 #[.val (.ref o0), .val (.int p1), .val (.int p2), .val (.int p3), .val (.long q4), .second, .val (.int p5), .unset, .unset, .unset] [(.int (0 : Int32))])) _
          exact Steps.refl _)
        exact ⟨(0 : Int32), (by rw [if_neg hc17]), K5⟩
    have K6 := K2.trans S3
    subst hv3_0
    obtain ⟨fs, hr, hrun, hended, hW, hsame⟩ := X0.leave (v := some (.int ((if w = p5 then (1 : Int32) else (0 : Int32)) &&& 1))) (fun h => by rw [Bd.returns] at h; cases h)
    refine ⟨_, _, K6.trans (retN X0 hx (t := .boolean) Bd.returns (by simp) (hb hby d3_25) hr), hrun, hended, _, _, rfl, ?_, ⟨_, rfl⟩, hW, hsame.mono (by decide) (by first | decide | omega)⟩
    show Q_rm3 Z o0 p1 p2 p3 q4 p5 k0 vs0 w h0 n0 _ s₁.heap _
    rw [e0]
    exact ⟨(by unfold f_rm3; rw [if_pos hc2]), N0, rfl⟩
  · have K7 : Steps p.tables e below _ (s₁.setTop (mkF m 9 #[.val (.ref o0), .val (.int p1), .val (.int p2), .val (.int p3), .val (.long q4), .second, .val (.int p5), .unset, .unset, .unset] [(.int (p2 + p3)), (.int p1)])) := K1.trans (by
      show Steps p.tables e below (s₁.setTop (mkF m 2 #[.val (.ref o0), .val (.int p1), .val (.int p2), .val (.int p3), .val (.long q4), .second, .val (.int p5), .unset, .unset, .unset] [(.int p2), (.int p1)])) _
      refine XS.icmpNo X0.here hx rfl (hb hby d3_2) rfl (flt hc2).1 ?_
      show Steps p.tables e below (s₁.setTop (mkF m 5 #[.val (.ref o0), .val (.int p1), .val (.int p2), .val (.int p3), .val (.long q4), .second, .val (.int p5), .unset, .unset, .unset] [])) _
      refine XS.iloadN X0.here hx rfl (hb hby d3_5) rfl ?_
      show Steps p.tables e below (s₁.setTop (mkF m 6 #[.val (.ref o0), .val (.int p1), .val (.int p2), .val (.int p3), .val (.long q4), .second, .val (.int p5), .unset, .unset, .unset] [(.int p1)])) _
      refine XS.iloadN X0.here hx rfl (hb hby d3_6) rfl ?_
      show Steps p.tables e below (s₁.setTop (mkF m 7 #[.val (.ref o0), .val (.int p1), .val (.int p2), .val (.int p3), .val (.long q4), .second, .val (.int p5), .unset, .unset, .unset] [(.int p2), (.int p1)])) _
      refine XS.iloadN X0.here hx rfl (hb hby d3_7) rfl ?_
      show Steps p.tables e below (s₁.setTop (mkF m 8 #[.val (.ref o0), .val (.int p1), .val (.int p2), .val (.int p3), .val (.long q4), .second, .val (.int p5), .unset, .unset, .unset] [(.int p3), (.int p2), (.int p1)])) _
      refine XS.iadd X0.here hx rfl (hb hby d3_8) rfl ?_
      show Steps p.tables e below (s₁.setTop (mkF m 9 #[.val (.ref o0), .val (.int p1), .val (.int p2), .val (.int p3), .val (.long q4), .second, .val (.int p5), .unset, .unset, .unset] [(.int (p2 + p3)), (.int p1)])) _
      exact Steps.refl _)
    by_cases hc9 : p1 < (p2 + p3)
    · have K8 : Steps p.tables e below _ (s₁.setTop (mkF m 51 #[.val (.ref o0), .val (.int p1), .val (.int p2), .val (.int p3), .val (.long q4), .second, .val (.int p5), .val (.int (p1 - p2)), .val (.int ((((q4.toUInt64 >>> (((7 : Int32) * (p1 - p2)) &&& 0x3f).toInt64.toUInt64).toInt64) &&& (127 : Int64)).toInt32)), .unset] [(.int (p3 - (1 : Int32))), (.int (p1 - p2))])) := K7.trans (by
        show Steps p.tables e below (s₁.setTop (mkF m 9 #[.val (.ref o0), .val (.int p1), .val (.int p2), .val (.int p3), .val (.long q4), .second, .val (.int p5), .unset, .unset, .unset] [(.int (p2 + p3)), (.int p1)])) _
        refine XS.icmpYes X0.here hx rfl (pc0 := 9) (pc' := 26) rfl (hb hby d3_9) rfl (tlt hc9).1 (by decide) (by decide) ?_
        show Steps p.tables e below (s₁.setTop (mkF m 26 #[.val (.ref o0), .val (.int p1), .val (.int p2), .val (.int p3), .val (.long q4), .second, .val (.int p5), .unset, .unset, .unset] [])) _
        refine XS.iloadN X0.here hx rfl (hb hby d3_26) rfl ?_
        show Steps p.tables e below (s₁.setTop (mkF m 27 #[.val (.ref o0), .val (.int p1), .val (.int p2), .val (.int p3), .val (.long q4), .second, .val (.int p5), .unset, .unset, .unset] [(.int p1)])) _
        refine XS.iloadN X0.here hx rfl (hb hby d3_27) rfl ?_
        show Steps p.tables e below (s₁.setTop (mkF m 28 #[.val (.ref o0), .val (.int p1), .val (.int p2), .val (.int p3), .val (.long q4), .second, .val (.int p5), .unset, .unset, .unset] [(.int p2), (.int p1)])) _
        refine XS.isub X0.here hx rfl (hb hby d3_28) rfl ?_
        show Steps p.tables e below (s₁.setTop (mkF m 29 #[.val (.ref o0), .val (.int p1), .val (.int p2), .val (.int p3), .val (.long q4), .second, .val (.int p5), .unset, .unset, .unset] [(.int (p1 - p2))])) _
        refine XS.istore X0.here hx rfl (hb hby d3_29) rfl (l' := #[.val (.ref o0), .val (.int p1), .val (.int p2), .val (.int p3), .val (.long q4), .second, .val (.int p5), .val (.int (p1 - p2)), .unset, .unset]) rfl ?_
        show Steps p.tables e below (s₁.setTop (mkF m 31 #[.val (.ref o0), .val (.int p1), .val (.int p2), .val (.int p3), .val (.long q4), .second, .val (.int p5), .val (.int (p1 - p2)), .unset, .unset] [])) _
        refine XS.lload X0.here hx rfl (hb hby d3_31) rfl ?_
        show Steps p.tables e below (s₁.setTop (mkF m 33 #[.val (.ref o0), .val (.int p1), .val (.int p2), .val (.int p3), .val (.long q4), .second, .val (.int p5), .val (.int (p1 - p2)), .unset, .unset] [(.long q4)])) _
        refine XS.bipush X0.here hx rfl (hb hby d3_33) ?_
        show Steps p.tables e below (s₁.setTop (mkF m 35 #[.val (.ref o0), .val (.int p1), .val (.int p2), .val (.int p3), .val (.long q4), .second, .val (.int p5), .val (.int (p1 - p2)), .unset, .unset] [(.int (7 : Int32)), (.long q4)])) _
        refine XS.iload X0.here hx rfl (hb hby d3_35) rfl ?_
        show Steps p.tables e below (s₁.setTop (mkF m 37 #[.val (.ref o0), .val (.int p1), .val (.int p2), .val (.int p3), .val (.long q4), .second, .val (.int p5), .val (.int (p1 - p2)), .unset, .unset] [(.int (p1 - p2)), (.int (7 : Int32)), (.long q4)])) _
        refine XS.imul X0.here hx rfl (hb hby d3_37) rfl ?_
        show Steps p.tables e below (s₁.setTop (mkF m 38 #[.val (.ref o0), .val (.int p1), .val (.int p2), .val (.int p3), .val (.long q4), .second, .val (.int p5), .val (.int (p1 - p2)), .unset, .unset] [(.int ((7 : Int32) * (p1 - p2))), (.long q4)])) _
        refine XS.lushr X0.here hx rfl (hb hby d3_38) rfl ?_
        show Steps p.tables e below (s₁.setTop (mkF m 39 #[.val (.ref o0), .val (.int p1), .val (.int p2), .val (.int p3), .val (.long q4), .second, .val (.int p5), .val (.int (p1 - p2)), .unset, .unset] [(.long ((q4.toUInt64 >>> (((7 : Int32) * (p1 - p2)) &&& 0x3f).toInt64.toUInt64).toInt64))])) _
        refine X0.ldc2Long hx hown (mvT hZ (hw _ (List.mem_of_getElem? (i := 14) rfl))) (g := (mkF m 39 #[.val (.ref o0), .val (.int p1), .val (.int p2), .val (.int p3), .val (.long q4), .second, .val (.int p5), .val (.int (p1 - p2)), .unset, .unset] [(.long ((q4.toUInt64 >>> (((7 : Int32) * (p1 - p2)) &&& 0x3f).toInt64.toUInt64).toInt64))])) rfl (hb hby d3_39) _ ?_
        show Steps p.tables e below (s₁.setTop (mkF m 42 #[.val (.ref o0), .val (.int p1), .val (.int p2), .val (.int p3), .val (.long q4), .second, .val (.int p5), .val (.int (p1 - p2)), .unset, .unset] [(.long (127 : Int64)), (.long ((q4.toUInt64 >>> (((7 : Int32) * (p1 - p2)) &&& 0x3f).toInt64.toUInt64).toInt64))])) _
        refine XS.land X0.here hx rfl (hb hby d3_42) rfl ?_
        show Steps p.tables e below (s₁.setTop (mkF m 43 #[.val (.ref o0), .val (.int p1), .val (.int p2), .val (.int p3), .val (.long q4), .second, .val (.int p5), .val (.int (p1 - p2)), .unset, .unset] [(.long (((q4.toUInt64 >>> (((7 : Int32) * (p1 - p2)) &&& 0x3f).toInt64.toUInt64).toInt64) &&& (127 : Int64)))])) _
        refine XS.l2i X0.here hx rfl (hb hby d3_43) rfl ?_
        show Steps p.tables e below (s₁.setTop (mkF m 44 #[.val (.ref o0), .val (.int p1), .val (.int p2), .val (.int p3), .val (.long q4), .second, .val (.int p5), .val (.int (p1 - p2)), .unset, .unset] [(.int ((((q4.toUInt64 >>> (((7 : Int32) * (p1 - p2)) &&& 0x3f).toInt64.toUInt64).toInt64) &&& (127 : Int64)).toInt32))])) _
        refine XS.istore X0.here hx rfl (hb hby d3_44) rfl (l' := #[.val (.ref o0), .val (.int p1), .val (.int p2), .val (.int p3), .val (.long q4), .second, .val (.int p5), .val (.int (p1 - p2)), .val (.int ((((q4.toUInt64 >>> (((7 : Int32) * (p1 - p2)) &&& 0x3f).toInt64.toUInt64).toInt64) &&& (127 : Int64)).toInt32)), .unset]) rfl ?_
        show Steps p.tables e below (s₁.setTop (mkF m 46 #[.val (.ref o0), .val (.int p1), .val (.int p2), .val (.int p3), .val (.long q4), .second, .val (.int p5), .val (.int (p1 - p2)), .val (.int ((((q4.toUInt64 >>> (((7 : Int32) * (p1 - p2)) &&& 0x3f).toInt64.toUInt64).toInt64) &&& (127 : Int64)).toInt32)), .unset] [])) _
        refine XS.iload X0.here hx rfl (hb hby d3_46) rfl ?_
        show Steps p.tables e below (s₁.setTop (mkF m 48 #[.val (.ref o0), .val (.int p1), .val (.int p2), .val (.int p3), .val (.long q4), .second, .val (.int p5), .val (.int (p1 - p2)), .val (.int ((((q4.toUInt64 >>> (((7 : Int32) * (p1 - p2)) &&& 0x3f).toInt64.toUInt64).toInt64) &&& (127 : Int64)).toInt32)), .unset] [(.int (p1 - p2))])) _
        refine XS.iloadN X0.here hx rfl (hb hby d3_48) rfl ?_
        show Steps p.tables e below (s₁.setTop (mkF m 49 #[.val (.ref o0), .val (.int p1), .val (.int p2), .val (.int p3), .val (.long q4), .second, .val (.int p5), .val (.int (p1 - p2)), .val (.int ((((q4.toUInt64 >>> (((7 : Int32) * (p1 - p2)) &&& 0x3f).toInt64.toUInt64).toInt64) &&& (127 : Int64)).toInt32)), .unset] [(.int p3), (.int (p1 - p2))])) _
        refine XS.iconst X0.here hx rfl (hb hby d3_49) ?_
        show Steps p.tables e below (s₁.setTop (mkF m 50 #[.val (.ref o0), .val (.int p1), .val (.int p2), .val (.int p3), .val (.long q4), .second, .val (.int p5), .val (.int (p1 - p2)), .val (.int ((((q4.toUInt64 >>> (((7 : Int32) * (p1 - p2)) &&& 0x3f).toInt64.toUInt64).toInt64) &&& (127 : Int64)).toInt32)), .unset] [(.int (1 : Int32)), (.int p3), (.int (p1 - p2))])) _
        refine XS.isub X0.here hx rfl (hb hby d3_50) rfl ?_
        show Steps p.tables e below (s₁.setTop (mkF m 51 #[.val (.ref o0), .val (.int p1), .val (.int p2), .val (.int p3), .val (.long q4), .second, .val (.int p5), .val (.int (p1 - p2)), .val (.int ((((q4.toUInt64 >>> (((7 : Int32) * (p1 - p2)) &&& 0x3f).toInt64.toUInt64).toInt64) &&& (127 : Int64)).toInt32)), .unset] [(.int (p3 - (1 : Int32))), (.int (p1 - p2))])) _
        exact Steps.refl _)
      obtain ⟨v9_0, hv9_0, S9⟩ : ∃ (v9_0 : Int32), (if (p1 - p2) < (p3 - (1 : Int32)) then (((((q4.toUInt64 >>> (((7 : Int32) * (p1 - p2)) &&& 0x3f).toInt64.toUInt64).toInt64) &&& (127 : Int64)).toInt32) ||| (128 : Int32)) else ((((q4.toUInt64 >>> (((7 : Int32) * (p1 - p2)) &&& 0x3f).toInt64.toUInt64).toInt64) &&& (127 : Int64)).toInt32)) = v9_0 ∧ Steps p.tables e below (s₁.setTop (mkF m 51 #[.val (.ref o0), .val (.int p1), .val (.int p2), .val (.int p3), .val (.long q4), .second, .val (.int p5), .val (.int (p1 - p2)), .val (.int ((((q4.toUInt64 >>> (((7 : Int32) * (p1 - p2)) &&& 0x3f).toInt64.toUInt64).toInt64) &&& (127 : Int64)).toInt32)), .unset] [(.int (p3 - (1 : Int32))), (.int (p1 - p2))])) (s₁.setTop (mkF m 65 #[.val (.ref o0), .val (.int p1), .val (.int p2), .val (.int p3), .val (.long q4), .second, .val (.int p5), .val (.int (p1 - p2)), .val (.int ((((q4.toUInt64 >>> (((7 : Int32) * (p1 - p2)) &&& 0x3f).toInt64.toUInt64).toInt64) &&& (127 : Int64)).toInt32)), .unset] [(.int v9_0)])) := by
        have R9 := Steps.refl (tb := p.tables) (e := e) (below := below) (s₁.setTop (mkF m 51 #[.val (.ref o0), .val (.int p1), .val (.int p2), .val (.int p3), .val (.long q4), .second, .val (.int p5), .val (.int (p1 - p2)), .val (.int ((((q4.toUInt64 >>> (((7 : Int32) * (p1 - p2)) &&& 0x3f).toInt64.toUInt64).toInt64) &&& (127 : Int64)).toInt32)), .unset] [(.int (p3 - (1 : Int32))), (.int (p1 - p2))]))
        by_cases hc51 : (p1 - p2) < (p3 - (1 : Int32))
        · have K10 : Steps p.tables e below _ (s₁.setTop (mkF m 65 #[.val (.ref o0), .val (.int p1), .val (.int p2), .val (.int p3), .val (.long q4), .second, .val (.int p5), .val (.int (p1 - p2)), .val (.int ((((q4.toUInt64 >>> (((7 : Int32) * (p1 - p2)) &&& 0x3f).toInt64.toUInt64).toInt64) &&& (127 : Int64)).toInt32)), .unset] [(.int (((((q4.toUInt64 >>> (((7 : Int32) * (p1 - p2)) &&& 0x3f).toInt64.toUInt64).toInt64) &&& (127 : Int64)).toInt32) ||| (128 : Int32)))])) := R9.trans (by
            show Steps p.tables e below (s₁.setTop (mkF m 51 #[.val (.ref o0), .val (.int p1), .val (.int p2), .val (.int p3), .val (.long q4), .second, .val (.int p5), .val (.int (p1 - p2)), .val (.int ((((q4.toUInt64 >>> (((7 : Int32) * (p1 - p2)) &&& 0x3f).toInt64.toUInt64).toInt64) &&& (127 : Int64)).toInt32)), .unset] [(.int (p3 - (1 : Int32))), (.int (p1 - p2))])) _
            refine XS.icmpNo X0.here hx rfl (hb hby d3_51) rfl (tlt hc51).2.1 ?_
            show Steps p.tables e below (s₁.setTop (mkF m 54 #[.val (.ref o0), .val (.int p1), .val (.int p2), .val (.int p3), .val (.long q4), .second, .val (.int p5), .val (.int (p1 - p2)), .val (.int ((((q4.toUInt64 >>> (((7 : Int32) * (p1 - p2)) &&& 0x3f).toInt64.toUInt64).toInt64) &&& (127 : Int64)).toInt32)), .unset] [])) _
            refine XS.iload X0.here hx rfl (hb hby d3_54) rfl ?_
            show Steps p.tables e below (s₁.setTop (mkF m 56 #[.val (.ref o0), .val (.int p1), .val (.int p2), .val (.int p3), .val (.long q4), .second, .val (.int p5), .val (.int (p1 - p2)), .val (.int ((((q4.toUInt64 >>> (((7 : Int32) * (p1 - p2)) &&& 0x3f).toInt64.toUInt64).toInt64) &&& (127 : Int64)).toInt32)), .unset] [(.int ((((q4.toUInt64 >>> (((7 : Int32) * (p1 - p2)) &&& 0x3f).toInt64.toUInt64).toInt64) &&& (127 : Int64)).toInt32))])) _
            refine XS.sipush X0.here hx rfl (hb hby d3_56) ?_
            show Steps p.tables e below (s₁.setTop (mkF m 59 #[.val (.ref o0), .val (.int p1), .val (.int p2), .val (.int p3), .val (.long q4), .second, .val (.int p5), .val (.int (p1 - p2)), .val (.int ((((q4.toUInt64 >>> (((7 : Int32) * (p1 - p2)) &&& 0x3f).toInt64.toUInt64).toInt64) &&& (127 : Int64)).toInt32)), .unset] [(.int (128 : Int32)), (.int ((((q4.toUInt64 >>> (((7 : Int32) * (p1 - p2)) &&& 0x3f).toInt64.toUInt64).toInt64) &&& (127 : Int64)).toInt32))])) _
            refine XS.ior X0.here hx rfl (hb hby d3_59) rfl ?_
            show Steps p.tables e below (s₁.setTop (mkF m 60 #[.val (.ref o0), .val (.int p1), .val (.int p2), .val (.int p3), .val (.long q4), .second, .val (.int p5), .val (.int (p1 - p2)), .val (.int ((((q4.toUInt64 >>> (((7 : Int32) * (p1 - p2)) &&& 0x3f).toInt64.toUInt64).toInt64) &&& (127 : Int64)).toInt32)), .unset] [(.int (((((q4.toUInt64 >>> (((7 : Int32) * (p1 - p2)) &&& 0x3f).toInt64.toUInt64).toInt64) &&& (127 : Int64)).toInt32) ||| (128 : Int32)))])) _
            refine XS.goto X0.here hx rfl (pc0 := 60) (pc' := 65) rfl (hb hby d3_60) (by decide) (by decide) ?_
            show Steps p.tables e below (s₁.setTop (mkF m 65 #[.val (.ref o0), .val (.int p1), .val (.int p2), .val (.int p3), .val (.long q4), .second, .val (.int p5), .val (.int (p1 - p2)), .val (.int ((((q4.toUInt64 >>> (((7 : Int32) * (p1 - p2)) &&& 0x3f).toInt64.toUInt64).toInt64) &&& (127 : Int64)).toInt32)), .unset] [(.int (((((q4.toUInt64 >>> (((7 : Int32) * (p1 - p2)) &&& 0x3f).toInt64.toUInt64).toInt64) &&& (127 : Int64)).toInt32) ||| (128 : Int32)))])) _
            exact Steps.refl _)
          exact ⟨(((((q4.toUInt64 >>> (((7 : Int32) * (p1 - p2)) &&& 0x3f).toInt64.toUInt64).toInt64) &&& (127 : Int64)).toInt32) ||| (128 : Int32)), (by rw [if_pos hc51]), K10⟩
        · have K11 : Steps p.tables e below _ (s₁.setTop (mkF m 65 #[.val (.ref o0), .val (.int p1), .val (.int p2), .val (.int p3), .val (.long q4), .second, .val (.int p5), .val (.int (p1 - p2)), .val (.int ((((q4.toUInt64 >>> (((7 : Int32) * (p1 - p2)) &&& 0x3f).toInt64.toUInt64).toInt64) &&& (127 : Int64)).toInt32)), .unset] [(.int ((((q4.toUInt64 >>> (((7 : Int32) * (p1 - p2)) &&& 0x3f).toInt64.toUInt64).toInt64) &&& (127 : Int64)).toInt32))])) := R9.trans (by
            show Steps p.tables e below (s₁.setTop (mkF m 51 #[.val (.ref o0), .val (.int p1), .val (.int p2), .val (.int p3), .val (.long q4), .second, .val (.int p5), .val (.int (p1 - p2)), .val (.int ((((q4.toUInt64 >>> (((7 : Int32) * (p1 - p2)) &&& 0x3f).toInt64.toUInt64).toInt64) &&& (127 : Int64)).toInt32)), .unset] [(.int (p3 - (1 : Int32))), (.int (p1 - p2))])) _
            refine XS.icmpYes X0.here hx rfl (pc0 := 51) (pc' := 63) rfl (hb hby d3_51) rfl (flt hc51).2.1 (by decide) (by decide) ?_
            show Steps p.tables e below (s₁.setTop (mkF m 63 #[.val (.ref o0), .val (.int p1), .val (.int p2), .val (.int p3), .val (.long q4), .second, .val (.int p5), .val (.int (p1 - p2)), .val (.int ((((q4.toUInt64 >>> (((7 : Int32) * (p1 - p2)) &&& 0x3f).toInt64.toUInt64).toInt64) &&& (127 : Int64)).toInt32)), .unset] [])) _
            refine XS.iload X0.here hx rfl (hb hby d3_63) rfl ?_
            show Steps p.tables e below (s₁.setTop (mkF m 65 #[.val (.ref o0), .val (.int p1), .val (.int p2), .val (.int p3), .val (.long q4), .second, .val (.int p5), .val (.int (p1 - p2)), .val (.int ((((q4.toUInt64 >>> (((7 : Int32) * (p1 - p2)) &&& 0x3f).toInt64.toUInt64).toInt64) &&& (127 : Int64)).toInt32)), .unset] [(.int ((((q4.toUInt64 >>> (((7 : Int32) * (p1 - p2)) &&& 0x3f).toInt64.toUInt64).toInt64) &&& (127 : Int64)).toInt32))])) _
            exact Steps.refl _)
          exact ⟨((((q4.toUInt64 >>> (((7 : Int32) * (p1 - p2)) &&& 0x3f).toInt64.toUInt64).toInt64) &&& (127 : Int64)).toInt32), (by rw [if_neg hc51]), K11⟩
      have K12 := K8.trans S9
      have K13 : Steps p.tables e below _ (s₁.setTop (mkF m 73 #[.val (.ref o0), .val (.int p1), .val (.int p2), .val (.int p3), .val (.long q4), .second, .val (.int p5), .val (.int (p1 - p2)), .val (.int ((((q4.toUInt64 >>> (((7 : Int32) * (p1 - p2)) &&& 0x3f).toInt64.toUInt64).toInt64) &&& (127 : Int64)).toInt32)), .val (.int v9_0)] [(.int (v9_0.toInt8.toInt32)), (.int w)])) := K12.trans (by
        show Steps p.tables e below (s₁.setTop (mkF m 65 #[.val (.ref o0), .val (.int p1), .val (.int p2), .val (.int p3), .val (.long q4), .second, .val (.int p5), .val (.int (p1 - p2)), .val (.int ((((q4.toUInt64 >>> (((7 : Int32) * (p1 - p2)) &&& 0x3f).toInt64.toUInt64).toInt64) &&& (127 : Int64)).toInt32)), .unset] [(.int v9_0)])) _
        refine XS.istore X0.here hx rfl (hb hby d3_65) rfl (l' := #[.val (.ref o0), .val (.int p1), .val (.int p2), .val (.int p3), .val (.long q4), .second, .val (.int p5), .val (.int (p1 - p2)), .val (.int ((((q4.toUInt64 >>> (((7 : Int32) * (p1 - p2)) &&& 0x3f).toInt64.toUInt64).toInt64) &&& (127 : Int64)).toInt32)), .val (.int v9_0)]) rfl ?_
        show Steps p.tables e below (s₁.setTop (mkF m 67 #[.val (.ref o0), .val (.int p1), .val (.int p2), .val (.int p3), .val (.long q4), .second, .val (.int p5), .val (.int (p1 - p2)), .val (.int ((((q4.toUInt64 >>> (((7 : Int32) * (p1 - p2)) &&& 0x3f).toInt64.toUInt64).toInt64) &&& (127 : Int64)).toInt32)), .val (.int v9_0)] [])) _
        refine XS.aloadN X0.here hx rfl (hb hby d3_67) rfl rfl ?_
        show Steps p.tables e below (s₁.setTop (mkF m 68 #[.val (.ref o0), .val (.int p1), .val (.int p2), .val (.int p3), .val (.long q4), .second, .val (.int p5), .val (.int (p1 - p2)), .val (.int ((((q4.toUInt64 >>> (((7 : Int32) * (p1 - p2)) &&& 0x3f).toInt64.toUInt64).toInt64) &&& (127 : Int64)).toInt32)), .val (.int v9_0)] [(.ref o0)])) _
        refine XS.iloadN X0.here hx rfl (hb hby d3_68) rfl ?_
        show Steps p.tables e below (s₁.setTop (mkF m 69 #[.val (.ref o0), .val (.int p1), .val (.int p2), .val (.int p3), .val (.long q4), .second, .val (.int p5), .val (.int (p1 - p2)), .val (.int ((((q4.toUInt64 >>> (((7 : Int32) * (p1 - p2)) &&& 0x3f).toInt64.toUInt64).toInt64) &&& (127 : Int64)).toInt32)), .val (.int v9_0)] [(.int p1), (.ref o0)])) _
        refine (own_ldB X0 hx hZ e0 V_o0 (j := p1) hi hat (g := (mkF m 69 #[.val (.ref o0), .val (.int p1), .val (.int p2), .val (.int p3), .val (.long q4), .second, .val (.int p5), .val (.int (p1 - p2)), .val (.int ((((q4.toUInt64 >>> (((7 : Int32) * (p1 - p2)) &&& 0x3f).toInt64.toUInt64).toInt64) &&& (127 : Int64)).toInt32)), .val (.int v9_0)] [(.int p1), (.ref o0)])) rfl rfl (hb hby d3_69)).trans ?_
        show Steps p.tables e below (s₁.setTop (mkF m 70 #[.val (.ref o0), .val (.int p1), .val (.int p2), .val (.int p3), .val (.long q4), .second, .val (.int p5), .val (.int (p1 - p2)), .val (.int ((((q4.toUInt64 >>> (((7 : Int32) * (p1 - p2)) &&& 0x3f).toInt64.toUInt64).toInt64) &&& (127 : Int64)).toInt32)), .val (.int v9_0)] [(.int w)])) _
        refine XS.iload X0.here hx rfl (hb hby d3_70) rfl ?_
        show Steps p.tables e below (s₁.setTop (mkF m 72 #[.val (.ref o0), .val (.int p1), .val (.int p2), .val (.int p3), .val (.long q4), .second, .val (.int p5), .val (.int (p1 - p2)), .val (.int ((((q4.toUInt64 >>> (((7 : Int32) * (p1 - p2)) &&& 0x3f).toInt64.toUInt64).toInt64) &&& (127 : Int64)).toInt32)), .val (.int v9_0)] [(.int v9_0), (.int w)])) _
        refine XS.i2b X0.here hx rfl (hb hby d3_72) rfl ?_
        show Steps p.tables e below (s₁.setTop (mkF m 73 #[.val (.ref o0), .val (.int p1), .val (.int p2), .val (.int p3), .val (.long q4), .second, .val (.int p5), .val (.int (p1 - p2)), .val (.int ((((q4.toUInt64 >>> (((7 : Int32) * (p1 - p2)) &&& 0x3f).toInt64.toUInt64).toInt64) &&& (127 : Int64)).toInt32)), .val (.int v9_0)] [(.int (v9_0.toInt8.toInt32)), (.int w)])) _
        exact Steps.refl _)
      obtain ⟨v14_0, hv14_0, S14⟩ : ∃ (v14_0 : Int32), (if w = (v9_0.toInt8.toInt32) then (1 : Int32) else (0 : Int32)) = v14_0 ∧ Steps p.tables e below (s₁.setTop (mkF m 73 #[.val (.ref o0), .val (.int p1), .val (.int p2), .val (.int p3), .val (.long q4), .second, .val (.int p5), .val (.int (p1 - p2)), .val (.int ((((q4.toUInt64 >>> (((7 : Int32) * (p1 - p2)) &&& 0x3f).toInt64.toUInt64).toInt64) &&& (127 : Int64)).toInt32)), .val (.int v9_0)] [(.int (v9_0.toInt8.toInt32)), (.int w)])) (s₁.setTop (mkF m 81 #[.val (.ref o0), .val (.int p1), .val (.int p2), .val (.int p3), .val (.long q4), .second, .val (.int p5), .val (.int (p1 - p2)), .val (.int ((((q4.toUInt64 >>> (((7 : Int32) * (p1 - p2)) &&& 0x3f).toInt64.toUInt64).toInt64) &&& (127 : Int64)).toInt32)), .val (.int v9_0)] [(.int v14_0)])) := by
        have R14 := Steps.refl (tb := p.tables) (e := e) (below := below) (s₁.setTop (mkF m 73 #[.val (.ref o0), .val (.int p1), .val (.int p2), .val (.int p3), .val (.long q4), .second, .val (.int p5), .val (.int (p1 - p2)), .val (.int ((((q4.toUInt64 >>> (((7 : Int32) * (p1 - p2)) &&& 0x3f).toInt64.toUInt64).toInt64) &&& (127 : Int64)).toInt32)), .val (.int v9_0)] [(.int (v9_0.toInt8.toInt32)), (.int w)]))
        by_cases hc73 : w = (v9_0.toInt8.toInt32)
        · have K15 : Steps p.tables e below _ (s₁.setTop (mkF m 81 #[.val (.ref o0), .val (.int p1), .val (.int p2), .val (.int p3), .val (.long q4), .second, .val (.int p5), .val (.int (p1 - p2)), .val (.int ((((q4.toUInt64 >>> (((7 : Int32) * (p1 - p2)) &&& 0x3f).toInt64.toUInt64).toInt64) &&& (127 : Int64)).toInt32)), .val (.int v9_0)] [(.int (1 : Int32))])) := R14.trans (by
            show Steps p.tables e below (s₁.setTop (mkF m 73 #[.val (.ref o0), .val (.int p1), .val (.int p2), .val (.int p3), .val (.long q4), .second, .val (.int p5), .val (.int (p1 - p2)), .val (.int ((((q4.toUInt64 >>> (((7 : Int32) * (p1 - p2)) &&& 0x3f).toInt64.toUInt64).toInt64) &&& (127 : Int64)).toInt32)), .val (.int v9_0)] [(.int (v9_0.toInt8.toInt32)), (.int w)])) _
            refine XS.icmpNo X0.here hx rfl (hb hby d3_73) rfl (teq hc73).2 ?_
            show Steps p.tables e below (s₁.setTop (mkF m 76 #[.val (.ref o0), .val (.int p1), .val (.int p2), .val (.int p3), .val (.long q4), .second, .val (.int p5), .val (.int (p1 - p2)), .val (.int ((((q4.toUInt64 >>> (((7 : Int32) * (p1 - p2)) &&& 0x3f).toInt64.toUInt64).toInt64) &&& (127 : Int64)).toInt32)), .val (.int v9_0)] [])) _
            refine XS.iconst X0.here hx rfl (hb hby d3_76) ?_
            show Steps p.tables e below (s₁.setTop (mkF m 77 #[.val (.ref o0), .val (.int p1), .val (.int p2), .val (.int p3), .val (.long q4), .second, .val (.int p5), .val (.int (p1 - p2)), .val (.int ((((q4.toUInt64 >>> (((7 : Int32) * (p1 - p2)) &&& 0x3f).toInt64.toUInt64).toInt64) &&& (127 : Int64)).toInt32)), .val (.int v9_0)] [(.int (1 : Int32))])) _
            refine XS.goto X0.here hx rfl (pc0 := 77) (pc' := 81) rfl (hb hby d3_77) (by decide) (by decide) ?_
            show Steps p.tables e below (s₁.setTop (mkF m 81 #[.val (.ref o0), .val (.int p1), .val (.int p2), .val (.int p3), .val (.long q4), .second, .val (.int p5), .val (.int (p1 - p2)), .val (.int ((((q4.toUInt64 >>> (((7 : Int32) * (p1 - p2)) &&& 0x3f).toInt64.toUInt64).toInt64) &&& (127 : Int64)).toInt32)), .val (.int v9_0)] [(.int (1 : Int32))])) _
            exact Steps.refl _)
          exact ⟨(1 : Int32), (by rw [if_pos hc73]), K15⟩
        · have K16 : Steps p.tables e below _ (s₁.setTop (mkF m 81 #[.val (.ref o0), .val (.int p1), .val (.int p2), .val (.int p3), .val (.long q4), .second, .val (.int p5), .val (.int (p1 - p2)), .val (.int ((((q4.toUInt64 >>> (((7 : Int32) * (p1 - p2)) &&& 0x3f).toInt64.toUInt64).toInt64) &&& (127 : Int64)).toInt32)), .val (.int v9_0)] [(.int (0 : Int32))])) := R14.trans (by
            show Steps p.tables e below (s₁.setTop (mkF m 73 #[.val (.ref o0), .val (.int p1), .val (.int p2), .val (.int p3), .val (.long q4), .second, .val (.int p5), .val (.int (p1 - p2)), .val (.int ((((q4.toUInt64 >>> (((7 : Int32) * (p1 - p2)) &&& 0x3f).toInt64.toUInt64).toInt64) &&& (127 : Int64)).toInt32)), .val (.int v9_0)] [(.int (v9_0.toInt8.toInt32)), (.int w)])) _
            refine XS.icmpYes X0.here hx rfl (pc0 := 73) (pc' := 80) rfl (hb hby d3_73) rfl (feq hc73).2 (by decide) (by decide) ?_
            show Steps p.tables e below (s₁.setTop (mkF m 80 #[.val (.ref o0), .val (.int p1), .val (.int p2), .val (.int p3), .val (.long q4), .second, .val (.int p5), .val (.int (p1 - p2)), .val (.int ((((q4.toUInt64 >>> (((7 : Int32) * (p1 - p2)) &&& 0x3f).toInt64.toUInt64).toInt64) &&& (127 : Int64)).toInt32)), .val (.int v9_0)] [])) _
            refine XS.iconst X0.here hx rfl (hb hby d3_80) ?_
            show Steps p.tables e below (s₁.setTop (mkF m 81 #[.val (.ref o0), .val (.int p1), .val (.int p2), .val (.int p3), .val (.long q4), .second, .val (.int p5), .val (.int (p1 - p2)), .val (.int ((((q4.toUInt64 >>> (((7 : Int32) * (p1 - p2)) &&& 0x3f).toInt64.toUInt64).toInt64) &&& (127 : Int64)).toInt32)), .val (.int v9_0)] [(.int (0 : Int32))])) _
            exact Steps.refl _)
          exact ⟨(0 : Int32), (by rw [if_neg hc73]), K16⟩
      have K17 := K13.trans S14
      subst hv14_0
      subst hv9_0
      obtain ⟨fs, hr, hrun, hended, hW, hsame⟩ := X0.leave (v := some (.int ((if w = ((if (p1 - p2) < (p3 - (1 : Int32)) then (((((q4.toUInt64 >>> (((7 : Int32) * (p1 - p2)) &&& 0x3f).toInt64.toUInt64).toInt64) &&& (127 : Int64)).toInt32) ||| (128 : Int32)) else ((((q4.toUInt64 >>> (((7 : Int32) * (p1 - p2)) &&& 0x3f).toInt64.toUInt64).toInt64) &&& (127 : Int64)).toInt32)).toInt8.toInt32) then (1 : Int32) else (0 : Int32)) &&& 1))) (fun h => by rw [Bd.returns] at h; cases h)
      refine ⟨_, _, K17.trans (retN X0 hx (t := .boolean) Bd.returns (by simp) (hb hby d3_81) hr), hrun, hended, _, _, rfl, ?_, ⟨_, rfl⟩, hW, hsame.mono (by decide) (by first | decide | omega)⟩
      show Q_rm3 Z o0 p1 p2 p3 q4 p5 k0 vs0 w h0 n0 _ s₁.heap _
      rw [e0]
      exact ⟨(by unfold f_rm3; rw [if_neg hc2, if_pos hc9]), N0, rfl⟩
    · have K18 : Steps p.tables e below _ (s₁.setTop (mkF m 17 #[.val (.ref o0), .val (.int p1), .val (.int p2), .val (.int p3), .val (.long q4), .second, .val (.int p5), .unset, .unset, .unset] [(.int p5), (.int w)])) := K7.trans (by
        show Steps p.tables e below (s₁.setTop (mkF m 9 #[.val (.ref o0), .val (.int p1), .val (.int p2), .val (.int p3), .val (.long q4), .second, .val (.int p5), .unset, .unset, .unset] [(.int (p2 + p3)), (.int p1)])) _
        refine XS.icmpNo X0.here hx rfl (hb hby d3_9) rfl (flt hc9).1 ?_
        show Steps p.tables e below (s₁.setTop (mkF m 12 #[.val (.ref o0), .val (.int p1), .val (.int p2), .val (.int p3), .val (.long q4), .second, .val (.int p5), .unset, .unset, .unset] [])) _
        refine XS.aloadN X0.here hx rfl (hb hby d3_12) rfl rfl ?_
        show Steps p.tables e below (s₁.setTop (mkF m 13 #[.val (.ref o0), .val (.int p1), .val (.int p2), .val (.int p3), .val (.long q4), .second, .val (.int p5), .unset, .unset, .unset] [(.ref o0)])) _
        refine XS.iloadN X0.here hx rfl (hb hby d3_13) rfl ?_
        show Steps p.tables e below (s₁.setTop (mkF m 14 #[.val (.ref o0), .val (.int p1), .val (.int p2), .val (.int p3), .val (.long q4), .second, .val (.int p5), .unset, .unset, .unset] [(.int p1), (.ref o0)])) _
        refine (own_ldB X0 hx hZ e0 V_o0 (j := p1) hi hat (g := (mkF m 14 #[.val (.ref o0), .val (.int p1), .val (.int p2), .val (.int p3), .val (.long q4), .second, .val (.int p5), .unset, .unset, .unset] [(.int p1), (.ref o0)])) rfl rfl (hb hby d3_14)).trans ?_
        show Steps p.tables e below (s₁.setTop (mkF m 15 #[.val (.ref o0), .val (.int p1), .val (.int p2), .val (.int p3), .val (.long q4), .second, .val (.int p5), .unset, .unset, .unset] [(.int w)])) _
        refine XS.iload X0.here hx rfl (hb hby d3_15) rfl ?_
        show Steps p.tables e below (s₁.setTop (mkF m 17 #[.val (.ref o0), .val (.int p1), .val (.int p2), .val (.int p3), .val (.long q4), .second, .val (.int p5), .unset, .unset, .unset] [(.int p5), (.int w)])) _
        exact Steps.refl _)
      obtain ⟨v19_0, hv19_0, S19⟩ : ∃ (v19_0 : Int32), (if w = p5 then (1 : Int32) else (0 : Int32)) = v19_0 ∧ Steps p.tables e below (s₁.setTop (mkF m 17 #[.val (.ref o0), .val (.int p1), .val (.int p2), .val (.int p3), .val (.long q4), .second, .val (.int p5), .unset, .unset, .unset] [(.int p5), (.int w)])) (s₁.setTop (mkF m 25 #[.val (.ref o0), .val (.int p1), .val (.int p2), .val (.int p3), .val (.long q4), .second, .val (.int p5), .unset, .unset, .unset] [(.int v19_0)])) := by
        have R19 := Steps.refl (tb := p.tables) (e := e) (below := below) (s₁.setTop (mkF m 17 #[.val (.ref o0), .val (.int p1), .val (.int p2), .val (.int p3), .val (.long q4), .second, .val (.int p5), .unset, .unset, .unset] [(.int p5), (.int w)]))
        by_cases hc17 : w = p5
        · have K20 : Steps p.tables e below _ (s₁.setTop (mkF m 25 #[.val (.ref o0), .val (.int p1), .val (.int p2), .val (.int p3), .val (.long q4), .second, .val (.int p5), .unset, .unset, .unset] [(.int (1 : Int32))])) := R19.trans (by
            show Steps p.tables e below (s₁.setTop (mkF m 17 #[.val (.ref o0), .val (.int p1), .val (.int p2), .val (.int p3), .val (.long q4), .second, .val (.int p5), .unset, .unset, .unset] [(.int p5), (.int w)])) _
            refine XS.icmpNo X0.here hx rfl (hb hby d3_17) rfl (teq hc17).2 ?_
            show Steps p.tables e below (s₁.setTop (mkF m 20 #[.val (.ref o0), .val (.int p1), .val (.int p2), .val (.int p3), .val (.long q4), .second, .val (.int p5), .unset, .unset, .unset] [])) _
            refine XS.iconst X0.here hx rfl (hb hby d3_20) ?_
            show Steps p.tables e below (s₁.setTop (mkF m 21 #[.val (.ref o0), .val (.int p1), .val (.int p2), .val (.int p3), .val (.long q4), .second, .val (.int p5), .unset, .unset, .unset] [(.int (1 : Int32))])) _
            refine XS.goto X0.here hx rfl (pc0 := 21) (pc' := 25) rfl (hb hby d3_21) (by decide) (by decide) ?_
            show Steps p.tables e below (s₁.setTop (mkF m 25 #[.val (.ref o0), .val (.int p1), .val (.int p2), .val (.int p3), .val (.long q4), .second, .val (.int p5), .unset, .unset, .unset] [(.int (1 : Int32))])) _
            exact Steps.refl _)
          exact ⟨(1 : Int32), (by rw [if_pos hc17]), K20⟩
        · have K21 : Steps p.tables e below _ (s₁.setTop (mkF m 25 #[.val (.ref o0), .val (.int p1), .val (.int p2), .val (.int p3), .val (.long q4), .second, .val (.int p5), .unset, .unset, .unset] [(.int (0 : Int32))])) := R19.trans (by
            show Steps p.tables e below (s₁.setTop (mkF m 17 #[.val (.ref o0), .val (.int p1), .val (.int p2), .val (.int p3), .val (.long q4), .second, .val (.int p5), .unset, .unset, .unset] [(.int p5), (.int w)])) _
            refine XS.icmpYes X0.here hx rfl (pc0 := 17) (pc' := 24) rfl (hb hby d3_17) rfl (feq hc17).2 (by decide) (by decide) ?_
            show Steps p.tables e below (s₁.setTop (mkF m 24 #[.val (.ref o0), .val (.int p1), .val (.int p2), .val (.int p3), .val (.long q4), .second, .val (.int p5), .unset, .unset, .unset] [])) _
            refine XS.iconst X0.here hx rfl (hb hby d3_24) ?_
            show Steps p.tables e below (s₁.setTop (mkF m 25 #[.val (.ref o0), .val (.int p1), .val (.int p2), .val (.int p3), .val (.long q4), .second, .val (.int p5), .unset, .unset, .unset] [(.int (0 : Int32))])) _
            exact Steps.refl _)
          exact ⟨(0 : Int32), (by rw [if_neg hc17]), K21⟩
      have K22 := K18.trans S19
      subst hv19_0
      obtain ⟨fs, hr, hrun, hended, hW, hsame⟩ := X0.leave (v := some (.int ((if w = p5 then (1 : Int32) else (0 : Int32)) &&& 1))) (fun h => by rw [Bd.returns] at h; cases h)
      refine ⟨_, _, K22.trans (retN X0 hx (t := .boolean) Bd.returns (by simp) (hb hby d3_25) hr), hrun, hended, _, _, rfl, ?_, ⟨_, rfl⟩, hW, hsame.mono (by decide) (by first | decide | omega)⟩
      show Q_rm3 Z o0 p1 p2 p3 q4 p5 k0 vs0 w h0 n0 _ s₁.heap _
      rw [e0]
      exact ⟨(by unfold f_rm3; rw [if_neg hc2, if_neg hc9]), N0, rfl⟩
def own_gi : Value → Int32
  | .int x => x
  | _ => 0
def own_by (vs : List Value) (q : Int32) : Int32 := own_gi (vs.getD q.toNatClampNeg (.int (0 : Int32)))
theorem own_hv {q v : Int64} {p : Int32} (h : (((q &&& (9223372036854775807 : Int64)).toUInt64 >>> ((p &&& (63 : Int32)) &&& 0x3f).toInt64.toUInt64).toInt64) = v) : 0 ≤ v.toInt ∧ v.toInt < 2 ^ (7 * (8 + 1)) := by
  have h1 := own_pos q (p &&& (63 : Int32))
  have h2 := Jvm.RoadKit.rng64 v
  have e : (2 : Int) ^ (7 * (8 + 1)) = 9223372036854775808 := by decide
  rw [h] at h1
  rw [e]; exact ⟨h1, h2.2⟩
theorem own_hj {p o : Int32} (h : (p &&& (7 : Int32)) = o) : 0 ≤ o.toInt ∧ o.toInt + ((8 : Nat) : Int) ≤ 15 := by
  have h1 := Jvm.RoadKit.c_mask p (7 : Int32) 3 (by decide) (by decide)
  rw [h] at h1
  omega
theorem own_hl {e : Int32} {vs : List Value} (h : [(.int (e.toInt8.toInt32)), (.int (e.toInt8.toInt32)), (.int (e.toInt8.toInt32)), (.int (e.toInt8.toInt32)), (.int (e.toInt8.toInt32)), (.int (e.toInt8.toInt32)), (.int (e.toInt8.toInt32)), (.int (e.toInt8.toInt32)), (.int (e.toInt8.toInt32)), (.int (e.toInt8.toInt32)), (.int (e.toInt8.toInt32)), (.int (e.toInt8.toInt32)), (.int (e.toInt8.toInt32)), (.int (e.toInt8.toInt32)), (.int (e.toInt8.toInt32)), (.int (e.toInt8.toInt32))] = vs) : vs.length = 16 := by
  subst h; rfl
theorem own_wlj : ∀ (k : Nat) (vs : List Value) (v : Int64) (j : Int32), 0 ≤ j.toInt → j.toInt + (k : Int) ≤ 15 → (0 ≤ (wl k vs v j).2.2.toInt ∧ (wl k vs v j).2.2.toInt ≤ j.toInt + k) ∧ (wl k vs v j).1.length = vs.length := by
  intro k
  induction k with
  | zero => intro vs v j h1 h2; simp only [wl]; exact ⟨⟨h1, by omega⟩, trivial⟩
  | succ k ih =>
    intro vs v j h1 h2
    simp only [wl]
    by_cases c : (v &&& (-128 : Int64)) = (0 : Int64)
    · rw [if_pos c]; exact ⟨⟨h1, by show j.toInt ≤ _; omega⟩, rfl⟩
    · rw [if_neg c]
      have hn := own_jn j k ⟨h1, by omega⟩
      have g1 := Jvm.RoadKit.c_iadd j (1 : Int32)
      have g2 := Jvm.RoadKit.rng32 (j + (1 : Int32))
      have e := own_z1
      have q := ih (vs.set j.toNatClampNeg (own_E v)) (((v.toUInt64 >>> ((7 : Int32) &&& 0x3f).toInt64.toUInt64).toInt64)) (j + (1 : Int32)) hn.1 (by omega)
      rw [List.length_set] at q
      exact ⟨⟨q.1.1, by omega⟩, q.2⟩
theorem own_hb {v : Int64} {o : Int32} {vs : List Value} (h : vs.length = 16) (hv : 0 ≤ v.toInt ∧ v.toInt < 2 ^ (7 * (8 + 1))) (ho : 0 ≤ o.toInt ∧ o.toInt + ((8 : Nat) : Int) ≤ 15) : (¬ ((wl 8 vs v o).2.2 < (0 : Int32))) ∧ (wl 8 vs v o).2.2 < (16 : Int32) := by
  have q := (own_wlj 8 vs v o ho.1 ho.2).1
  rw [own_lt32, own_lt32, own_z0, own_z16]; omega
theorem own_hb2 {v : Int64} {o : Int32} {vs : List Value} (h : vs.length = 16) (hv : 0 ≤ v.toInt ∧ v.toInt < 2 ^ (7 * (8 + 1))) (ho : 0 ≤ o.toInt ∧ o.toInt + ((8 : Nat) : Int) ≤ 15) : (wl 8 vs v o).2.2.toNatClampNeg < (wl 8 vs v o).1.length := by
  have q := own_wlj 8 vs v o ho.1 ho.2
  have n := own_nat q.1.1
  rw [q.2, h]; omega
def own_ai (vs : List Value) : Prop := ∀ k, vs.getD k (.int (0 : Int32)) = .int (own_gi (vs.getD k (.int (0 : Int32))))
theorem own_gs (vs : List Value) (i : Nat) (v d : Value) (h : i < vs.length) : (vs.set i v).getD i d = v := by
  simp [List.getD, List.getElem?_set_self h]
theorem own_gn (vs : List Value) (i k : Nat) (v d : Value) (h : i ≠ k) : (vs.set i v).getD k d = vs.getD k d := by
  simp [List.getD, List.getElem?_set_ne h]
theorem own_si {vs : List Value} (i : Nat) (n : Int32) (h : own_ai vs) : own_ai (vs.set i (.int n)) := by
  intro k
  by_cases e : i = k
  · subst e
    by_cases l : i < vs.length
    · rw [own_gs _ _ _ _ l]; rfl
    · rw [List.set_eq_of_length_le (by omega)]; exact h i
  · rw [own_gn _ _ _ _ _ e]; exact h k
theorem own_wla : ∀ (k : Nat) (vs : List Value) (v : Int64) (j : Int32), own_ai vs → own_ai (wl k vs v j).1 := by
  intro k
  induction k with
  | zero => intro vs v j h; exact h
  | succ k ih =>
    intro vs v j h
    simp only [wl]
    by_cases c : (v &&& (-128 : Int64)) = (0 : Int64)
    · rw [if_pos c]; exact h
    · rw [if_neg c]; exact ih _ _ _ (own_si _ _ h)
theorem own_rep (n k : Nat) (z : Int32) : own_gi ((List.replicate n (Value.int z)).getD k (.int (0 : Int32))) = own_gi ((List.replicate n (Value.int z)).getD k (.int (0 : Int32))) ∧ (List.replicate n (Value.int z)).getD k (.int (0 : Int32)) = .int (own_gi ((List.replicate n (Value.int z)).getD k (.int (0 : Int32)))) := by
  refine ⟨rfl, ?_⟩
  by_cases h : k < n
  · have : (List.replicate n (Value.int z)).getD k (.int (0 : Int32)) = .int z := by simp [List.getD, List.getElem?_replicate, h]
    rw [this]; rfl
  · have : (List.replicate n (Value.int z)).getD k (.int (0 : Int32)) = .int (0 : Int32) := by simp [List.getD, List.getElem?_replicate, h]
    rw [this]; rfl
theorem own_ai1 {e : Int32} {vs : List Value} (h : [(.int (e.toInt8.toInt32)), (.int (e.toInt8.toInt32)), (.int (e.toInt8.toInt32)), (.int (e.toInt8.toInt32)), (.int (e.toInt8.toInt32)), (.int (e.toInt8.toInt32)), (.int (e.toInt8.toInt32)), (.int (e.toInt8.toInt32)), (.int (e.toInt8.toInt32)), (.int (e.toInt8.toInt32)), (.int (e.toInt8.toInt32)), (.int (e.toInt8.toInt32)), (.int (e.toInt8.toInt32)), (.int (e.toInt8.toInt32)), (.int (e.toInt8.toInt32)), (.int (e.toInt8.toInt32))] = vs) : own_ai vs := by
  subst h; exact fun k => (own_rep 16 k (e.toInt8.toInt32)).2
theorem own_ai_w {vs1 : List Value} (hv : own_ai vs1) (v : Int64) (o : Int32) (vsx : List Value) (h : ((wl 8 vs1 v o).1.set (wl 8 vs1 v o).2.2.toNatClampNeg (.int ((((wl 8 vs1 v o).2.1.toInt32).toInt8.toInt32).toInt8.toInt32))) = vsx) : ∀ q : Int32, vsx.getD q.toNatClampNeg (.int (0 : Int32)) = .int (own_by vsx q) := by
  subst h
  exact fun q => own_si _ _ (own_wla 8 vs1 v o hv) _
def own_tn : Nat → Int → Nat
  | 0, _ => 0
  | k + 1, N => if N < 128 then 0 else own_tn k (N / 128) + 1
def own_is (w : Int32) (M : Int) : Prop := (w.toInt - M) % 256 = 0 ∧ -128 ≤ w.toInt ∧ w.toInt < 128
theorem own_is_uniq {w z : Int32} {M : Int} (h1 : own_is w M) (h2 : own_is z M) : w = z := by
  apply Int32.toInt_inj.mp
  obtain ⟨a, b, c⟩ := h1
  obtain ⟨d, e, f⟩ := h2
  omega
theorem own_is_b {q : Int32} {M : Int} (h : (q.toInt - M) % 256 = 0) : own_is (q.toInt8.toInt32) M := by
  have h1 := Jvm.RoadKit.c_i2b q
  exact ⟨by omega, h1.2.1, h1.2.2⟩
theorem own_bb (q : Int32) : (q.toInt8.toInt32).toInt8.toInt32 = q.toInt8.toInt32 := by
  simp
theorem own_hi2 (v : Int64) (h : 0 ≤ v.toInt) : (v &&& (-128 : Int64)) = (0 : Int64) ↔ v.toInt < 128 := by
  rw [own_hi v]
  have h1 := own_nn v
  have h2 := Jvm.RoadKit.rng64 v
  omega
theorem own_Eis (v : Int64) : own_is (own_gi (own_E v)) (v.toInt % 128 + 128) := by
  show own_is (((((v &&& (127 : Int64)) ||| (128 : Int64)).toInt32).toInt8.toInt32).toInt8.toInt32) _
  rw [own_bb]
  apply own_is_b
  have h1 := Jvm.RoadKit.c_maskL v (127 : Int64) 7 (by decide) (by decide)
  have e : (128 : Int64).toInt = 128 := rfl
  have h2 := Jvm.RoadKit.c_orL' (v &&& (127 : Int64)) (128 : Int64) 7 (by decide) 128 (by decide) (by rw [e]; decide) (by omega) (by omega)
  have h3 := Jvm.RoadKit.c_l2i ((v &&& (127 : Int64)) ||| (128 : Int64))
  omega
theorem own_dd (N : Int) (i : Nat) : N / 128 / 128 ^ i = N / 128 ^ (i + 1) := by
  rw [Int.ediv_ediv_of_nonneg (by decide), Int.pow_succ, Int.mul_comm]
theorem own_wl : ∀ (k : Nat) (vs : List Value) (v : Int64) (j : Int32), (0 ≤ v.toInt ∧ v.toInt < 2 ^ (7 * (k + 1))) → (0 ≤ j.toInt ∧ j.toInt + (k : Int) ≤ 15) → vs.length = 16 →
    own_tn k v.toInt ≤ k ∧ (wl k vs v j).2.2.toInt = j.toInt + (own_tn k v.toInt : Int) ∧ (wl k vs v j).2.1.toInt = v.toInt / 128 ^ (own_tn k v.toInt) ∧
    (∀ i : Nat, ((i : Int) < j.toInt ∨ j.toInt + (own_tn k v.toInt : Int) ≤ (i : Int)) → (wl k vs v j).1.getD i (.int (0 : Int32)) = vs.getD i (.int (0 : Int32))) ∧
    (∀ i : Nat, i < own_tn k v.toInt → own_is (own_gi ((wl k vs v j).1.getD (j.toInt.toNat + i) (.int (0 : Int32)))) (v.toInt / 128 ^ i % 128 + 128)) := by
  intro k
  induction k with
  | zero =>
    intro vs v j hv hj hl
    simp only [wl, own_tn]
    exact ⟨Nat.le_refl _, by omega, by simp, (by intros; first | rfl | trivial), fun i h => absurd h (Nat.not_lt_zero i)⟩
  | succ k ih =>
    intro vs v j hv hj hl
    have hnx := own_next v k hv
    have hj' : 0 ≤ j.toInt ∧ j.toInt + (k : Int) + 1 ≤ 15 := ⟨hj.1, by have := hj.2; omega⟩
    have hjn := own_jn j k hj'
    have g1 := Jvm.RoadKit.c_iadd j (1 : Int32)
    have g2 := Jvm.RoadKit.rng32 (j + (1 : Int32))
    have e1 := own_z1
    have hja : (j + (1 : Int32)).toInt = j.toInt + 1 := by omega
    have hnat : j.toNatClampNeg = j.toInt.toNat := rfl
    by_cases c : (v &&& (-128 : Int64)) = (0 : Int64)
    · have c' := (own_hi2 v hv.1).mp c
      simp only [wl, own_tn]
      rw [if_pos c, if_pos c']
      exact ⟨Nat.zero_le _, by simp, by simp, (by intros; first | rfl | trivial), fun i h => absurd h (Nat.not_lt_zero i)⟩
    · have c' : ¬ (v.toInt < 128) := fun z => c ((own_hi2 v hv.1).mpr z)
      obtain ⟨q1, q2, q3, q4, q5⟩ := ih (vs.set j.toNatClampNeg (own_E v)) (((v.toUInt64 >>> ((7 : Int32) &&& 0x3f).toInt64.toUInt64).toInt64)) (j + (1 : Int32)) hnx hjn (by rw [List.length_set]; exact hl)
      rw [own_sh7 v hv.1] at q1 q2 q3 q4 q5
      simp only [wl, own_tn]
      rw [if_neg c, if_neg c']
      refine ⟨by omega, by rw [q2, hja]; push_cast; omega, by rw [q3, own_dd], ?_, ?_⟩
      · intro i hi
        rw [q4 i (by rw [hja]; omega), own_gn]
        rw [hnat]; omega
      · intro i hi
        cases i with
        | zero =>
          rw [q4 (j.toInt.toNat + 0) (by rw [hja]; omega), hnat, Nat.add_zero, own_gs _ _ _ _ (by rw [hl]; omega)]
          have z := own_Eis v
          simpa using z
        | succ i =>
          have z := q5 i (by omega)
          rw [hja, own_dd] at z
          rw [show j.toInt.toNat + (i + 1) = (j.toInt + 1).toNat + i by omega]
          exact z
theorem own_shd (v : Int64) (d : Int32) (hv : 0 ≤ v.toInt) (h : 0 ≤ d.toInt ∧ d.toInt ≤ 8) : (((v.toUInt64 >>> (((7 : Int32) * d) &&& 0x3f).toInt64.toUInt64).toInt64)).toInt = v.toInt / 128 ^ d.toInt.toNat := by
  have r := Jvm.RoadKit.rng64 v
  have hc : d = 0 ∨ d = 1 ∨ d = 2 ∨ d = 3 ∨ d = 4 ∨ d = 5 ∨ d = 6 ∨ d = 7 ∨ d = 8 := by
    simp only [← Int32.toInt_inj]
    show d.toInt = 0 ∨ d.toInt = 1 ∨ d.toInt = 2 ∨ d.toInt = 3 ∨ d.toInt = 4 ∨ d.toInt = 5 ∨ d.toInt = 6 ∨ d.toInt = 7 ∨ d.toInt = 8
    omega
  rcases hc with e | e | e | e | e | e | e | e | e <;> subst e
  · have z : ((v.toUInt64 >>> (((7 : Int32) * 0) &&& 0x3f).toInt64.toUInt64).toInt64) = v := by
      have : (((7 : Int32) * 0) &&& 0x3f).toInt64.toUInt64 = 0 := by decide
      rw [this]; simp
    rw [z]; show v.toInt = v.toInt / 128 ^ 0; simp
  · have q := Jvm.RoadKit.c_lushr v ((7 : Int32) * 1) 7 (by decide) (by decide); rw [q]; show _ = v.toInt / 128 ^ 1; omega
  · have q := Jvm.RoadKit.c_lushr v ((7 : Int32) * 2) 14 (by decide) (by decide); rw [q]; show _ = v.toInt / 128 ^ 2; omega
  · have q := Jvm.RoadKit.c_lushr v ((7 : Int32) * 3) 21 (by decide) (by decide); rw [q]; show _ = v.toInt / 128 ^ 3; omega
  · have q := Jvm.RoadKit.c_lushr v ((7 : Int32) * 4) 28 (by decide) (by decide); rw [q]; show _ = v.toInt / 128 ^ 4; omega
  · have q := Jvm.RoadKit.c_lushr v ((7 : Int32) * 5) 35 (by decide) (by decide); rw [q]; show _ = v.toInt / 128 ^ 5; omega
  · have q := Jvm.RoadKit.c_lushr v ((7 : Int32) * 6) 42 (by decide) (by decide); rw [q]; show _ = v.toInt / 128 ^ 6; omega
  · have q := Jvm.RoadKit.c_lushr v ((7 : Int32) * 7) 49 (by decide) (by decide); rw [q]; show _ = v.toInt / 128 ^ 7; omega
  · have q := Jvm.RoadKit.c_lushr v ((7 : Int32) * 8) 56 (by decide) (by decide); rw [q]; show _ = v.toInt / 128 ^ 8; omega
theorem own_m (v : Int64) (d : Int32) (M : Int) (hv : 0 ≤ v.toInt) (h : 0 ≤ d.toInt ∧ d.toInt ≤ 8) (hM : v.toInt / 128 ^ d.toInt.toNat = M) : (f_rm1 v d).toInt = if M = 0 then 0 else 1 := by
  have q := own_shd v d hv h
  rw [hM] at q
  unfold f_rm1
  by_cases c : M = 0
  · have z : ((v.toUInt64 >>> (((7 : Int32) * d) &&& 0x3f).toInt64.toUInt64).toInt64) = (0 : Int64) := by
      apply Int64.toInt_inj.mp; rw [q, c]; rfl
    rw [if_pos z, if_pos c]; rfl
  · have z : ¬ ((v.toUInt64 >>> (((7 : Int32) * d) &&& 0x3f).toInt64.toUInt64).toInt64) = (0 : Int64) := by
      intro w; rw [w] at q; exact c (q.symm.trans rfl)
    rw [if_neg z, if_neg c]; rfl
theorem own_cnt (N : Int) (h0 : 0 ≤ N) (h1 : N < 9223372036854775808) : (1 : Int) + (if N / 128 ^ 1 = 0 then 0 else 1) + (if N / 128 ^ 2 = 0 then 0 else 1) + (if N / 128 ^ 3 = 0 then 0 else 1) + (if N / 128 ^ 4 = 0 then 0 else 1) + (if N / 128 ^ 5 = 0 then 0 else 1) + (if N / 128 ^ 6 = 0 then 0 else 1) + (if N / 128 ^ 7 = 0 then 0 else 1) + (if N / 128 ^ 8 = 0 then 0 else 1) = 1 + (own_tn 8 N : Int) := by
  simp only [own_tn]
  by_cases c0 : N < 128
  · have e1 : N / 128 ^ 1 = 0 := by omega
    have e2 : N / 128 ^ 2 = 0 := by omega
    have e3 : N / 128 ^ 3 = 0 := by omega
    have e4 : N / 128 ^ 4 = 0 := by omega
    have e5 : N / 128 ^ 5 = 0 := by omega
    have e6 : N / 128 ^ 6 = 0 := by omega
    have e7 : N / 128 ^ 7 = 0 := by omega
    have e8 : N / 128 ^ 8 = 0 := by omega
    rw [if_pos e1, if_pos e2, if_pos e3, if_pos e4, if_pos e5, if_pos e6, if_pos e7, if_pos e8]
    rw [if_pos c0]
    rfl
  by_cases c1 : N / 128 < 128
  · have e1 : ¬ (N / 128 ^ 1 = 0) := by omega
    have e2 : N / 128 ^ 2 = 0 := by omega
    have e3 : N / 128 ^ 3 = 0 := by omega
    have e4 : N / 128 ^ 4 = 0 := by omega
    have e5 : N / 128 ^ 5 = 0 := by omega
    have e6 : N / 128 ^ 6 = 0 := by omega
    have e7 : N / 128 ^ 7 = 0 := by omega
    have e8 : N / 128 ^ 8 = 0 := by omega
    rw [if_neg e1, if_pos e2, if_pos e3, if_pos e4, if_pos e5, if_pos e6, if_pos e7, if_pos e8]
    rw [if_neg c0, if_pos c1]
    rfl
  by_cases c2 : N / 128 / 128 < 128
  · have e1 : ¬ (N / 128 ^ 1 = 0) := by omega
    have e2 : ¬ (N / 128 ^ 2 = 0) := by omega
    have e3 : N / 128 ^ 3 = 0 := by omega
    have e4 : N / 128 ^ 4 = 0 := by omega
    have e5 : N / 128 ^ 5 = 0 := by omega
    have e6 : N / 128 ^ 6 = 0 := by omega
    have e7 : N / 128 ^ 7 = 0 := by omega
    have e8 : N / 128 ^ 8 = 0 := by omega
    rw [if_neg e1, if_neg e2, if_pos e3, if_pos e4, if_pos e5, if_pos e6, if_pos e7, if_pos e8]
    rw [if_neg c0, if_neg c1, if_pos c2]
    rfl
  by_cases c3 : N / 128 / 128 / 128 < 128
  · have e1 : ¬ (N / 128 ^ 1 = 0) := by omega
    have e2 : ¬ (N / 128 ^ 2 = 0) := by omega
    have e3 : ¬ (N / 128 ^ 3 = 0) := by omega
    have e4 : N / 128 ^ 4 = 0 := by omega
    have e5 : N / 128 ^ 5 = 0 := by omega
    have e6 : N / 128 ^ 6 = 0 := by omega
    have e7 : N / 128 ^ 7 = 0 := by omega
    have e8 : N / 128 ^ 8 = 0 := by omega
    rw [if_neg e1, if_neg e2, if_neg e3, if_pos e4, if_pos e5, if_pos e6, if_pos e7, if_pos e8]
    rw [if_neg c0, if_neg c1, if_neg c2, if_pos c3]
    rfl
  by_cases c4 : N / 128 / 128 / 128 / 128 < 128
  · have e1 : ¬ (N / 128 ^ 1 = 0) := by omega
    have e2 : ¬ (N / 128 ^ 2 = 0) := by omega
    have e3 : ¬ (N / 128 ^ 3 = 0) := by omega
    have e4 : ¬ (N / 128 ^ 4 = 0) := by omega
    have e5 : N / 128 ^ 5 = 0 := by omega
    have e6 : N / 128 ^ 6 = 0 := by omega
    have e7 : N / 128 ^ 7 = 0 := by omega
    have e8 : N / 128 ^ 8 = 0 := by omega
    rw [if_neg e1, if_neg e2, if_neg e3, if_neg e4, if_pos e5, if_pos e6, if_pos e7, if_pos e8]
    rw [if_neg c0, if_neg c1, if_neg c2, if_neg c3, if_pos c4]
    rfl
  by_cases c5 : N / 128 / 128 / 128 / 128 / 128 < 128
  · have e1 : ¬ (N / 128 ^ 1 = 0) := by omega
    have e2 : ¬ (N / 128 ^ 2 = 0) := by omega
    have e3 : ¬ (N / 128 ^ 3 = 0) := by omega
    have e4 : ¬ (N / 128 ^ 4 = 0) := by omega
    have e5 : ¬ (N / 128 ^ 5 = 0) := by omega
    have e6 : N / 128 ^ 6 = 0 := by omega
    have e7 : N / 128 ^ 7 = 0 := by omega
    have e8 : N / 128 ^ 8 = 0 := by omega
    rw [if_neg e1, if_neg e2, if_neg e3, if_neg e4, if_neg e5, if_pos e6, if_pos e7, if_pos e8]
    rw [if_neg c0, if_neg c1, if_neg c2, if_neg c3, if_neg c4, if_pos c5]
    rfl
  by_cases c6 : N / 128 / 128 / 128 / 128 / 128 / 128 < 128
  · have e1 : ¬ (N / 128 ^ 1 = 0) := by omega
    have e2 : ¬ (N / 128 ^ 2 = 0) := by omega
    have e3 : ¬ (N / 128 ^ 3 = 0) := by omega
    have e4 : ¬ (N / 128 ^ 4 = 0) := by omega
    have e5 : ¬ (N / 128 ^ 5 = 0) := by omega
    have e6 : ¬ (N / 128 ^ 6 = 0) := by omega
    have e7 : N / 128 ^ 7 = 0 := by omega
    have e8 : N / 128 ^ 8 = 0 := by omega
    rw [if_neg e1, if_neg e2, if_neg e3, if_neg e4, if_neg e5, if_neg e6, if_pos e7, if_pos e8]
    rw [if_neg c0, if_neg c1, if_neg c2, if_neg c3, if_neg c4, if_neg c5, if_pos c6]
    rfl
  by_cases c7 : N / 128 / 128 / 128 / 128 / 128 / 128 / 128 < 128
  · have e1 : ¬ (N / 128 ^ 1 = 0) := by omega
    have e2 : ¬ (N / 128 ^ 2 = 0) := by omega
    have e3 : ¬ (N / 128 ^ 3 = 0) := by omega
    have e4 : ¬ (N / 128 ^ 4 = 0) := by omega
    have e5 : ¬ (N / 128 ^ 5 = 0) := by omega
    have e6 : ¬ (N / 128 ^ 6 = 0) := by omega
    have e7 : ¬ (N / 128 ^ 7 = 0) := by omega
    have e8 : N / 128 ^ 8 = 0 := by omega
    rw [if_neg e1, if_neg e2, if_neg e3, if_neg e4, if_neg e5, if_neg e6, if_neg e7, if_pos e8]
    rw [if_neg c0, if_neg c1, if_neg c2, if_neg c3, if_neg c4, if_neg c5, if_neg c6, if_pos c7]
    rfl
  have e1 : ¬ (N / 128 ^ 1 = 0) := by omega
  have e2 : ¬ (N / 128 ^ 2 = 0) := by omega
  have e3 : ¬ (N / 128 ^ 3 = 0) := by omega
  have e4 : ¬ (N / 128 ^ 4 = 0) := by omega
  have e5 : ¬ (N / 128 ^ 5 = 0) := by omega
  have e6 : ¬ (N / 128 ^ 6 = 0) := by omega
  have e7 : ¬ (N / 128 ^ 7 = 0) := by omega
  have e8 : ¬ (N / 128 ^ 8 = 0) := by omega
  rw [if_neg e1, if_neg e2, if_neg e3, if_neg e4, if_neg e5, if_neg e6, if_neg e7, if_neg e8]
  rw [if_neg c0, if_neg c1, if_neg c2, if_neg c3, if_neg c4, if_neg c5, if_neg c6, if_neg c7]
  rfl
theorem own_tend : ∀ (k : Nat) (N : Int), 0 ≤ N → N < 2 ^ (7 * (k + 1)) → N / 128 ^ (own_tn k N) < 128 := by
  intro k
  induction k with
  | zero => intro N h0 h1; simp only [own_tn]; have e : (2 : Int) ^ (7 * (0 + 1)) = 128 := by decide
            rw [e] at h1; simpa using h1
  | succ k ih =>
    intro N h0 h1
    simp only [own_tn]
    by_cases c : N < 128
    · rw [if_pos c]; simpa using c
    · rw [if_neg c, ← own_dd]
      apply ih (N / 128) (by omega)
      have e : (2 : Int) ^ (7 * (k + 1 + 1)) = 2 ^ (7 * (k + 1)) * 128 := by rw [show 7 * (k + 1 + 1) = 7 * (k + 1) + 7 by omega, Int.pow_add]; rfl
      rw [e] at h1
      generalize (2 : Int) ^ (7 * (k + 1)) = P at h1 ⊢
      omega
theorem own_k (k off nn sb : Int32) (vv : Int64) (vs1 vsx : List Value) (t : Nat) (hk : 0 ≤ k.toInt ∧ k.toInt < 16) (hv : 0 ≤ vv.toInt ∧ vv.toInt < 2 ^ (7 * (8 + 1))) (hj : 0 ≤ off.toInt ∧ off.toInt + ((8 : Nat) : Int) ≤ 15) (hl : vs1.length = 16) (h1 : ∀ i : Nat, i < 16 → vs1.getD i (.int (0 : Int32)) = .int sb) (ht : own_tn 8 vv.toInt = t) (hn : nn.toInt = 1 + (t : Int))
    (hvsx : ((wl 8 vs1 vv off).1.set (wl 8 vs1 vv off).2.2.toNatClampNeg (.int ((((wl 8 vs1 vv off).2.1.toInt32).toInt8.toInt32).toInt8.toInt32))) = vsx) : f_rm3 k off nn vv sb (own_by vsx k) = (1 : Int32) := by
  obtain ⟨q1, q2, q3, q4, q5⟩ := own_wl 8 vs1 vv off hv hj hl
  have ql := (own_wlj 8 vs1 vv off hj.1 hj.2).2
  rw [ht] at q1 q2 q3 q4 q5
  have a1 := Jvm.RoadKit.c_iadd off nn
  have a2 := Jvm.RoadKit.rng32 (off + nn)
  have b1 := Jvm.RoadKit.c_isub k off
  have b2 := Jvm.RoadKit.rng32 (k - off)
  have d1 := Jvm.RoadKit.c_isub nn (1 : Int32)
  have d2 := Jvm.RoadKit.rng32 (nn - (1 : Int32))
  have e1 := own_z1
  have A : (off + nn).toInt = off.toInt + nn.toInt := by omega
  have B : (k - off).toInt = k.toInt - off.toInt := by omega
  have D : (nn - (1 : Int32)).toInt = t := by omega
  have hnat : ∀ z : Int32, z.toNatClampNeg = z.toInt.toNat := fun _ => rfl
  unfold f_rm3
  by_cases c1 : k < off
  · rw [if_pos c1]
    rw [own_lt32] at c1
    have w : own_by vsx k = sb := by
      unfold own_by; rw [← hvsx, own_gn _ _ _ _ _ (by rw [hnat, hnat]; omega), q4 _ (by rw [hnat]; omega), h1 _ (by rw [hnat]; omega)]; rfl
    rw [if_pos w]; rfl
  · rw [if_neg c1]
    rw [own_lt32] at c1
    by_cases c2 : k < off + nn
    · rw [if_pos c2]
      rw [own_lt32, A] at c2
      have s := own_shd vv (k - off) hv.1 ⟨by omega, by omega⟩
      rw [B] at s
      generalize (vv.toUInt64 >>> (((7 : Int32) * (k - off)) &&& 0x3f).toInt64.toUInt64).toInt64 = u at s ⊢
      have m1 := Jvm.RoadKit.c_maskL u (127 : Int64) 7 (by decide) (by decide)
      have m2 := Jvm.RoadKit.c_l2i (u &&& (127 : Int64))
      have m3 := Jvm.RoadKit.rng32 (u &&& (127 : Int64)).toInt32
      by_cases c3 : (k - off) < (nn - (1 : Int32))
      · rw [if_pos c3]
        rw [own_lt32, B, D] at c3
        have w : own_is (own_by vsx k) (u.toInt % 128 + 128) := by
          unfold own_by; rw [← hvsx, own_gn _ _ _ _ _ (by rw [hnat, hnat]; omega), hnat]
          have z := q5 (k.toInt - off.toInt).toNat (by omega)
          rw [show off.toInt.toNat + (k.toInt - off.toInt).toNat = k.toInt.toNat by omega, ← s] at z
          exact z
        have w2 : own_is ((((u &&& (127 : Int64)).toInt32) ||| (128 : Int32)).toInt8.toInt32) (u.toInt % 128 + 128) := by
          apply own_is_b
          have e : (128 : Int32).toInt = 128 := rfl
          have o := Jvm.RoadKit.c_or' ((u &&& (127 : Int64)).toInt32) (128 : Int32) 7 (by decide) 128 (by decide) (by rw [e]; decide) (by omega) (by omega)
          omega
        rw [if_pos (own_is_uniq w w2)]; rfl
      · rw [if_neg c3]
        rw [own_lt32, B, D] at c3
        have w : own_is (own_by vsx k) (u.toInt % 128) := by
          unfold own_by; rw [← hvsx, show (wl 8 vs1 vv off).2.2.toNatClampNeg = k.toNatClampNeg by rw [hnat, hnat]; omega, own_gs _ _ _ _ (by rw [ql, hl, hnat]; omega)]
          show own_is ((((wl 8 vs1 vv off).2.1.toInt32).toInt8.toInt32).toInt8.toInt32) _
          rw [own_bb]; apply own_is_b
          have z := Jvm.RoadKit.c_l2i (wl 8 vs1 vv off).2.1
          rw [show (k.toInt - off.toInt).toNat = t by omega] at s
          have te := own_tend 8 vv.toInt hv.1 hv.2
          have tp : 0 ≤ vv.toInt / 128 ^ t := Int.ediv_nonneg hv.1 (Int.le_of_lt (Int.pow_pos (by decide)))
          rw [ht, ← s] at te
          rw [← s] at tp
          rw [q3, ← s] at z
          omega
        have w2 : own_is (((u &&& (127 : Int64)).toInt32).toInt8.toInt32) (u.toInt % 128) := by
          apply own_is_b; omega
        rw [if_pos (own_is_uniq w w2)]; rfl
    · rw [if_neg c2]
      rw [own_lt32, A] at c2
      have w : own_by vsx k = sb := by
        unfold own_by; rw [← hvsx, own_gn _ _ _ _ _ (by rw [hnat, hnat]; omega), q4 _ (by rw [hnat]; omega), h1 _ (by rw [hnat]; omega)]; rfl
      rw [if_pos w]; rfl
theorem own_rp (n i : Nat) (z d : Value) (h : i < n) : (List.replicate n z).getD i d = z := by
  simp [List.getD, List.getElem?_replicate, h]

theorem pd_0 : parseMethodDescriptor "(JI)I" = some ⟨[.long, .int], some .int⟩ := by decide +kernel
theorem pd_1 : parseMethodDescriptor "([BIJ)I" = some ⟨[(.array .byte), .int, .long], some .int⟩ := by decide +kernel
theorem pd_2 : parseMethodDescriptor "([BIIIJB)Z" = some ⟨[(.array .byte), .int, .int, .int, .long, .byte], some .boolean⟩ := by decide +kernel
def Q_rm0 (n0 : Nat) (v : Option Value) (L : List Loc) : Prop := v = some (.int 1) ∧ Fr n0 L
theorem pn_0 : plainName "com/example/windward/windward/storage/VarIntsWritePinLaw" = true := by first | (simp [plainName, overriddenIn]; done) | decide +kernel
theorem ef_0 (m : MethodId) (x0 : Int64) (x1 : Int32) (x2 : Int32) (x3 : Int32) : entryFrame m #[(.long x0), (.int x1), (.int x2), (.int x3)] maxLocals = mkF m 0 #[.val (.long x0), .second, .val (.int x1), .val (.int x2), .val (.int x3), .unset, .unset, .unset, .unset, .unset, .unset, .unset, .unset] [] := by first | (simp [entryFrame, mkF, argsToLocals, Value.category, maxLocals]; done) | rfl
set_option maxRecDepth 65536 in
set_option maxHeartbeats 4000000 in
theorem own_law_0 (q0 : Int64) (p1 : Int32) (p2 : Int32) (p3 : Int32) (vv : Int64) (off : Int32) (sb : Int32) (vs1 : List Value) (r58 : Int32) (r62 : Int32) (r66 : Int32) (r70 : Int32) (r74 : Int32) (r78 : Int32) (r82 : Int32) (r86 : Int32) (nn : Int32) (r91 : Int32) (vsx : List Value) (v94_0 : Int32) (v99_0 : Int32) (v110_0 : Int32) (v121_0 : Int32) (v132_0 : Int32) (v143_0 : Int32) (v154_0 : Int32) (v165_0 : Int32) (v176_0 : Int32) (v187_0 : Int32) (v198_0 : Int32) (v209_0 : Int32) (v220_0 : Int32) (v231_0 : Int32) (v242_0 : Int32) (v253_0 : Int32) (v264_0 : Int32) (hvv : (((q0 &&& (9223372036854775807 : Int64)).toUInt64 >>> ((p1 &&& (63 : Int32)) &&& 0x3f).toInt64.toUInt64).toInt64) = vv) (hoff : (p2 &&& (7 : Int32)) = off) (hsb : (p3.toInt8.toInt32) = sb) (hvs1 : [(.int (sb.toInt8.toInt32)), (.int (sb.toInt8.toInt32)), (.int (sb.toInt8.toInt32)), (.int (sb.toInt8.toInt32)), (.int (sb.toInt8.toInt32)), (.int (sb.toInt8.toInt32)), (.int (sb.toInt8.toInt32)), (.int (sb.toInt8.toInt32)), (.int (sb.toInt8.toInt32)), (.int (sb.toInt8.toInt32)), (.int (sb.toInt8.toInt32)), (.int (sb.toInt8.toInt32)), (.int (sb.toInt8.toInt32)), (.int (sb.toInt8.toInt32)), (.int (sb.toInt8.toInt32)), (.int (sb.toInt8.toInt32))] = vs1) (hr58 : (f_rm1 vv (1 : Int32)) = r58) (hr62 : (f_rm1 vv (2 : Int32)) = r62) (hr66 : (f_rm1 vv (3 : Int32)) = r66) (hr70 : (f_rm1 vv (4 : Int32)) = r70) (hr74 : (f_rm1 vv (5 : Int32)) = r74) (hr78 : (f_rm1 vv (6 : Int32)) = r78) (hr82 : (f_rm1 vv (7 : Int32)) = r82) (hr86 : (f_rm1 vv (8 : Int32)) = r86) (hnn : (((((((((1 : Int32) + r58) + r62) + r66) + r70) + r74) + r78) + r82) + r86) = nn) (hr91 : (f_rm2 off vv vs1) = r91) (hvsx : ((wl 8 vs1 vv off).1.set (wl 8 vs1 vv off).2.2.toNatClampNeg (.int ((((wl 8 vs1 vv off).2.1.toInt32).toInt8.toInt32).toInt8.toInt32))) = vsx) (hv94_0 : (if r91 = (off + nn) then (1 : Int32) else (0 : Int32)) = v94_0) (hv99_0 : (if v94_0 = (0 : Int32) then (0 : Int32) else (if (f_rm3 (0 : Int32) off nn vv sb (own_by vsx (0 : Int32))) = (0 : Int32) then (0 : Int32) else (1 : Int32))) = v99_0) (hv110_0 : (if v99_0 = (0 : Int32) then (0 : Int32) else (if (f_rm3 (1 : Int32) off nn vv sb (own_by vsx (1 : Int32))) = (0 : Int32) then (0 : Int32) else (1 : Int32))) = v110_0) (hv121_0 : (if v110_0 = (0 : Int32) then (0 : Int32) else (if (f_rm3 (2 : Int32) off nn vv sb (own_by vsx (2 : Int32))) = (0 : Int32) then (0 : Int32) else (1 : Int32))) = v121_0) (hv132_0 : (if v121_0 = (0 : Int32) then (0 : Int32) else (if (f_rm3 (3 : Int32) off nn vv sb (own_by vsx (3 : Int32))) = (0 : Int32) then (0 : Int32) else (1 : Int32))) = v132_0) (hv143_0 : (if v132_0 = (0 : Int32) then (0 : Int32) else (if (f_rm3 (4 : Int32) off nn vv sb (own_by vsx (4 : Int32))) = (0 : Int32) then (0 : Int32) else (1 : Int32))) = v143_0) (hv154_0 : (if v143_0 = (0 : Int32) then (0 : Int32) else (if (f_rm3 (5 : Int32) off nn vv sb (own_by vsx (5 : Int32))) = (0 : Int32) then (0 : Int32) else (1 : Int32))) = v154_0) (hv165_0 : (if v154_0 = (0 : Int32) then (0 : Int32) else (if (f_rm3 (6 : Int32) off nn vv sb (own_by vsx (6 : Int32))) = (0 : Int32) then (0 : Int32) else (1 : Int32))) = v165_0) (hv176_0 : (if v165_0 = (0 : Int32) then (0 : Int32) else (if (f_rm3 (7 : Int32) off nn vv sb (own_by vsx (7 : Int32))) = (0 : Int32) then (0 : Int32) else (1 : Int32))) = v176_0) (hv187_0 : (if v176_0 = (0 : Int32) then (0 : Int32) else (if (f_rm3 (8 : Int32) off nn vv sb (own_by vsx (8 : Int32))) = (0 : Int32) then (0 : Int32) else (1 : Int32))) = v187_0) (hv198_0 : (if v187_0 = (0 : Int32) then (0 : Int32) else (if (f_rm3 (9 : Int32) off nn vv sb (own_by vsx (9 : Int32))) = (0 : Int32) then (0 : Int32) else (1 : Int32))) = v198_0) (hv209_0 : (if v198_0 = (0 : Int32) then (0 : Int32) else (if (f_rm3 (10 : Int32) off nn vv sb (own_by vsx (10 : Int32))) = (0 : Int32) then (0 : Int32) else (1 : Int32))) = v209_0) (hv220_0 : (if v209_0 = (0 : Int32) then (0 : Int32) else (if (f_rm3 (11 : Int32) off nn vv sb (own_by vsx (11 : Int32))) = (0 : Int32) then (0 : Int32) else (1 : Int32))) = v220_0) (hv231_0 : (if v220_0 = (0 : Int32) then (0 : Int32) else (if (f_rm3 (12 : Int32) off nn vv sb (own_by vsx (12 : Int32))) = (0 : Int32) then (0 : Int32) else (1 : Int32))) = v231_0) (hv242_0 : (if v231_0 = (0 : Int32) then (0 : Int32) else (if (f_rm3 (13 : Int32) off nn vv sb (own_by vsx (13 : Int32))) = (0 : Int32) then (0 : Int32) else (1 : Int32))) = v242_0) (hv253_0 : (if v242_0 = (0 : Int32) then (0 : Int32) else (if (f_rm3 (14 : Int32) off nn vv sb (own_by vsx (14 : Int32))) = (0 : Int32) then (0 : Int32) else (1 : Int32))) = v253_0) (hv264_0 : (if v253_0 = (0 : Int32) then (0 : Int32) else (if (f_rm3 (15 : Int32) off nn vv sb (own_by vsx (15 : Int32))) = (0 : Int32) then (0 : Int32) else (1 : Int32))) = v264_0) : (v264_0 &&& 1) = (1 : Int32) := by
  have hv := own_hv hvv
  have hj := own_hj hoff
  have hl := own_hl hvs1
  have hc := own_cnt vv.toInt hv.1 (by have := (Jvm.RoadKit.rng64 vv).2; omega)
  have m1 := own_m vv (1 : Int32) (vv.toInt / 128 ^ 1) hv.1 (by decide) rfl
  have m2 := own_m vv (2 : Int32) (vv.toInt / 128 ^ 2) hv.1 (by decide) rfl
  have m3 := own_m vv (3 : Int32) (vv.toInt / 128 ^ 3) hv.1 (by decide) rfl
  have m4 := own_m vv (4 : Int32) (vv.toInt / 128 ^ 4) hv.1 (by decide) rfl
  have m5 := own_m vv (5 : Int32) (vv.toInt / 128 ^ 5) hv.1 (by decide) rfl
  have m6 := own_m vv (6 : Int32) (vv.toInt / 128 ^ 6) hv.1 (by decide) rfl
  have m7 := own_m vv (7 : Int32) (vv.toInt / 128 ^ 7) hv.1 (by decide) rfl
  have m8 := own_m vv (8 : Int32) (vv.toInt / 128 ^ 8) hv.1 (by decide) rfl
  rw [hr58] at m1
  rw [hr62] at m2
  rw [hr66] at m3
  rw [hr70] at m4
  rw [hr74] at m5
  rw [hr78] at m6
  rw [hr82] at m7
  rw [hr86] at m8
  rw [← m1, ← m2, ← m3, ← m4, ← m5, ← m6, ← m7, ← m8] at hc
  have tk := (own_wl 8 vs1 vv off hv hj hl).1
  have tj := (own_wl 8 vs1 vv off hv hj hl).2.1
  obtain ⟨t, ht⟩ : ∃ t, own_tn 8 vv.toInt = t := ⟨_, rfl⟩
  rw [ht] at hc tk tj
  have hn : nn.toInt = 1 + (t : Int) := by
    have b : ∀ (z : Int32) (M : Int), z.toInt = (if M = 0 then 0 else 1) → 0 ≤ z.toInt ∧ z.toInt ≤ 1 := by
      intro z M h; rw [h]; by_cases c : M = 0
      · rw [if_pos c]; decide
      · rw [if_neg c]; decide
    have b1 := b _ _ m1
    have b2 := b _ _ m2
    have b3 := b _ _ m3
    have b4 := b _ _ m4
    have b5 := b _ _ m5
    have b6 := b _ _ m6
    have b7 := b _ _ m7
    have b8 := b _ _ m8
    clear m1 m2 m3 m4 m5 m6 m7 m8
    have ad : ∀ (a z : Int32), 0 ≤ a.toInt ∧ a.toInt ≤ 100 → 0 ≤ z.toInt ∧ z.toInt ≤ 1 → (a + z).toInt = a.toInt + z.toInt := by
      intro a z h1 h2
      have g1 := Jvm.RoadKit.c_iadd a z
      have g2 := Jvm.RoadKit.rng32 (a + z)
      omega
    have e1 := own_z1
    have s1 := ad (1 : Int32) r58 (by omega) b1
    have s2 := ad _ r62 (by rw [s1]; omega) b2
    have s3 := ad _ r66 (by rw [s2]; omega) b3
    have s4 := ad _ r70 (by rw [s3]; omega) b4
    have s5 := ad _ r74 (by rw [s4]; omega) b5
    have s6 := ad _ r78 (by rw [s5]; omega) b6
    have s7 := ad _ r82 (by rw [s6]; omega) b7
    have s8 := ad _ r86 (by rw [s7]; omega) b8
    rw [hnn] at s8
    omega
  have h1 : ∀ i : Nat, i < 16 → vs1.getD i (.int (0 : Int32)) = .int sb := by
    intro i hi
    rw [← hvs1, ← hsb, own_bb]
    have : ∀ (z : Value), ([z, z, z, z, z, z, z, z, z, z, z, z, z, z, z, z] : List Value).getD i (.int (0 : Int32)) = z := by
      intro z
      exact own_rp 16 i z _ hi
    exact this _
  have K := fun (k : Int32) (hk : 0 ≤ k.toInt ∧ k.toInt < 16) => own_k k off nn sb vv vs1 vsx t hk hv hj hl h1 ht hn hvsx
  have E0 : r91 = off + nn := by
    rw [← hr91]; unfold f_rm2
    apply Int32.toInt_inj.mp
    have g1 := Jvm.RoadKit.c_iadd off nn
    have g2 := Jvm.RoadKit.rng32 (off + nn)
    have g3 := Jvm.RoadKit.c_iadd (wl 8 vs1 vv off).2.2 (1 : Int32)
    have g4 := Jvm.RoadKit.rng32 ((wl 8 vs1 vv off).2.2 + (1 : Int32))
    have e1 := own_z1
    omega
  clear hc m1 m2 m3 m4 m5 m6 m7 m8
  rw [if_pos E0] at hv94_0
  have st : ∀ (a f b : Int32), a = (1 : Int32) → f = (1 : Int32) → (if a = (0 : Int32) then (0 : Int32) else (if f = (0 : Int32) then (0 : Int32) else (1 : Int32))) = b → b = (1 : Int32) := by
    intro a f b h1 h2 h3; subst h1; subst h2; rw [← h3]; rfl
  have w := hv94_0.symm
  have w := st _ _ _ w (K (0 : Int32) (by decide)) hv99_0
  have w := st _ _ _ w (K (1 : Int32) (by decide)) hv110_0
  have w := st _ _ _ w (K (2 : Int32) (by decide)) hv121_0
  have w := st _ _ _ w (K (3 : Int32) (by decide)) hv132_0
  have w := st _ _ _ w (K (4 : Int32) (by decide)) hv143_0
  have w := st _ _ _ w (K (5 : Int32) (by decide)) hv154_0
  have w := st _ _ _ w (K (6 : Int32) (by decide)) hv165_0
  have w := st _ _ _ w (K (7 : Int32) (by decide)) hv176_0
  have w := st _ _ _ w (K (8 : Int32) (by decide)) hv187_0
  have w := st _ _ _ w (K (9 : Int32) (by decide)) hv198_0
  have w := st _ _ _ w (K (10 : Int32) (by decide)) hv209_0
  have w := st _ _ _ w (K (11 : Int32) (by decide)) hv220_0
  have w := st _ _ _ w (K (12 : Int32) (by decide)) hv231_0
  have w := st _ _ _ w (K (13 : Int32) (by decide)) hv242_0
  have w := st _ _ _ w (K (14 : Int32) (by decide)) hv253_0
  have w := st _ _ _ w (K (15 : Int32) (by decide)) hv264_0
  rw [w]; rfl
set_option maxRecDepth 65536 in
set_option maxHeartbeats 40000000 in
theorem rm0 (l : Launch) (Z : State) (a0 : Array Value) (hw : ∀ d ∈ tables_1, d.before a0 Z = true) (ws : List Jvm.Cond) (q0 : Int64) (p1 : Int32) (p2 : Int32) (p3 : Int32) (h0 : Heap) (n0 : Nat) (Z0 : n0 ≤ h0.size) :
    MetFree l x (head1 (Jvm.Cond.code x code maxLocals ret :: ws) room_1) (fun a U => a = #[(.long q0), (.int p1), (.int p2), (.int p3)] ∧ Z.Warmed39 U.vm ∧ U.heap = h0) (fun _ _ _ _ _ => True) (fun _ U o U' => ∃ v L, o = .returned v ∧ Q_rm0 n0 v L ∧ FrameEnd U o U' L 1 16) := by
  refine MetFree.of_bodySF (plainFor_of_name pn_0) hisR ?_
  intro p e s m args below meth c s₁ Bd hml0 hP hK
  obtain ⟨rfl, hZ, hh⟩ := hP
  have hx := Bd.exec
  have hby := Bd.bytes
  have hml : c.maxLocals = 13 := hml0
  have hown : s.vm.findClass "com/example/windward/windward/storage/VarIntsWritePinLaw" = some m.cls := findClass_of_methodNamed Bd.named
  have hnm := (name_of_methodNamed Bd.named Bd.method).1
  have X0 : Stand p l e room_1 s m #[(.long q0), (.int p1), (.int p2), (.int p3)] below meth c s₁ [] 0 0 := Stand.of_body Bd
  have e0 : s₁.heap = h0 := by rw [← hh, Bd.state]; rfl
  have N0 := Fr.nil n0
  have K0 : Steps p.tables e below (s₁.setTop (entryFrame m #[(.long q0), (.int p1), (.int p2), (.int p3)] maxLocals)) (s₁.setTop (mkF m 0 #[.val (.long q0), .second, .val (.int p1), .val (.int p2), .val (.int p3), .unset, .unset, .unset, .unset, .unset, .unset, .unset, .unset] [])) := castTop (ef_0 m q0 p1 p2 p3) (Steps.refl _)
  have K1 : Steps p.tables e below _ (s₁.setTop (mkF m 10 #[.val (.long q0), .second, .val (.int p1), .val (.int p2), .val (.int p3), .unset, .unset, .unset, .unset, .unset, .unset, .unset, .unset] [(.long (((q0 &&& (9223372036854775807 : Int64)).toUInt64 >>> ((p1 &&& (63 : Int32)) &&& 0x3f).toInt64.toUInt64).toInt64))])) := K0.trans (by
    refine XS.lloadN X0.here hx rfl (hb hby at_0) rfl ?_
    refine X0.ldc2Long hx hown (mvT hZ (hw _ (List.mem_of_getElem? (i := 0) rfl))) (g := (mkF m 1 #[.val (.long q0), .second, .val (.int p1), .val (.int p2), .val (.int p3), .unset, .unset, .unset, .unset, .unset, .unset, .unset, .unset] [(.long q0)])) rfl (hb hby at_1) _ ?_
    refine XS.land X0.here hx rfl (hb hby at_4) rfl ?_
    refine XS.iloadN X0.here hx rfl (hb hby at_5) rfl ?_
    refine XS.bipush X0.here hx rfl (hb hby at_6) ?_
    show Steps p.tables e below (s₁.setTop (mkF m 8 #[.val (.long q0), .second, .val (.int p1), .val (.int p2), .val (.int p3), .unset, .unset, .unset, .unset, .unset, .unset, .unset, .unset] [(.int (63 : Int32)), (.int p1), (.long (q0 &&& (9223372036854775807 : Int64)))])) _
    refine XS.iand X0.here hx rfl (hb hby at_8) rfl ?_
    refine XS.lushr X0.here hx rfl (hb hby at_9) rfl ?_
    exact Steps.refl _)
  obtain ⟨vv, hvv⟩ : ∃ z : Int64, (((q0 &&& (9223372036854775807 : Int64)).toUInt64 >>> ((p1 &&& (63 : Int32)) &&& 0x3f).toInt64.toUInt64).toInt64) = z := ⟨_, rfl⟩
  rw [hvv] at K1
  have K2 : Steps p.tables e below _ (s₁.setTop (mkF m 16 #[.val (.long q0), .second, .val (.int p1), .val (.int p2), .val (.int p3), .val (.long vv), .second, .unset, .unset, .unset, .unset, .unset, .unset] [(.int (p2 &&& (7 : Int32)))])) := K1.trans (by
    refine XS.lstore X0.here hx rfl (hb hby at_10) rfl (l' := #[.val (.long q0), .second, .val (.int p1), .val (.int p2), .val (.int p3), .val (.long vv), .second, .unset, .unset, .unset, .unset, .unset, .unset]) rfl ?_
    refine XS.iloadN X0.here hx rfl (hb hby at_12) rfl ?_
    refine XS.bipush X0.here hx rfl (hb hby at_13) ?_
    refine XS.iand X0.here hx rfl (hb hby at_15) rfl ?_
    exact Steps.refl _)
  obtain ⟨off, hoff⟩ : ∃ z : Int32, (p2 &&& (7 : Int32)) = z := ⟨_, rfl⟩
  rw [hoff] at K2
  have K3 : Steps p.tables e below _ (s₁.setTop (mkF m 21 #[.val (.long q0), .second, .val (.int p1), .val (.int p2), .val (.int p3), .val (.long vv), .second, .val (.int off), .unset, .unset, .unset, .unset, .unset] [(.int (p3.toInt8.toInt32))])) := K2.trans (by
    refine XS.istore X0.here hx rfl (hb hby at_16) rfl (l' := #[.val (.long q0), .second, .val (.int p1), .val (.int p2), .val (.int p3), .val (.long vv), .second, .val (.int off), .unset, .unset, .unset, .unset, .unset]) rfl ?_
    refine XS.iload X0.here hx rfl (hb hby at_18) rfl ?_
    refine XS.i2b X0.here hx rfl (hb hby at_20) rfl ?_
    exact Steps.refl _)
  obtain ⟨sb, hsb⟩ : ∃ z : Int32, (p3.toInt8.toInt32) = z := ⟨_, rfl⟩
  rw [hsb] at K3
  have K4 : Steps p.tables e below _ (s₁.setTop (mkF m 25 #[.val (.long q0), .second, .val (.int p1), .val (.int p2), .val (.int p3), .val (.long vv), .second, .val (.int off), .val (.int sb), .unset, .unset, .unset, .unset] [(.int (16 : Int32))])) := K3.trans (by
    refine XS.istore X0.here hx rfl (hb hby at_21) rfl (l' := #[.val (.long q0), .second, .val (.int p1), .val (.int p2), .val (.int p3), .val (.long vv), .second, .val (.int off), .val (.int sb), .unset, .unset, .unset, .unset]) rfl ?_
    refine XS.bipush X0.here hx rfl (hb hby at_23) ?_
    exact Steps.refl _)
  obtain ⟨T5, h5, k5, b5, X5, e5, E5, g5, V5, A5, st5⟩ := own_newB X0 hx hZ (hw _ (List.mem_of_getElem? (i := 1) rfl)) e0 (g := (mkF m 25 #[.val (.long q0), .second, .val (.int p1), .val (.int p2), .val (.int p3), .val (.long vv), .second, .val (.int off), .val (.int sb), .unset, .unset, .unset, .unset] [(.int (16 : Int32))])) rfl (hb hby at_25) rfl (by decide) 16 (by decide) (by decide) (by decide) (by decide)
  have ge_b5 : n0 ≤ b5 := Nat.le_trans Z0 (Nat.le_of_eq g5.symm)
  have K6 : Steps p.tables e below _ (T5.setTop (mkF m 27 #[.val (.long q0), .second, .val (.int p1), .val (.int p2), .val (.int p3), .val (.long vv), .second, .val (.int off), .val (.int sb), .unset, .unset, .unset, .unset] [(.ref b5)])) := K4.trans st5
  have Vn5 : Arv Z h5 b5 k5 .byte (16 : Int32) [(.int (0 : Int32)), (.int (0 : Int32)), (.int (0 : Int32)), (.int (0 : Int32)), (.int (0 : Int32)), (.int (0 : Int32)), (.int (0 : Int32)), (.int (0 : Int32)), (.int (0 : Int32)), (.int (0 : Int32)), (.int (0 : Int32)), (.int (0 : Int32)), (.int (0 : Int32)), (.int (0 : Int32)), (.int (0 : Int32)), (.int (0 : Int32))] (.int (0 : Int32)) := V5
  have K7 : Steps p.tables e below _ (T5.setTop (mkF m 31 #[.val (.long q0), .second, .val (.int p1), .val (.int p2), .val (.int p3), .val (.long vv), .second, .val (.int off), .val (.int sb), .unset, .unset, .unset, .unset] [(.int sb), (.int (0 : Int32)), (.ref b5), (.ref b5)])) := K6.trans (by
    refine XS.dup X5.here hx rfl (hb hby at_27) rfl rfl ?_
    refine XS.iconst X5.here hx rfl (hb hby at_28) ?_
    refine XS.iload X5.here hx rfl (hb hby at_29) rfl ?_
    exact Steps.refl _)
  obtain ⟨T8, h8, X8, e8, W8, V8, st8⟩ := own_stB X5 hx hZ e5 Vn5 (j := (0 : Int32)) ⟨by decide, by decide⟩ 0 rfl (Nat.le_of_ble_eq_true rfl) (g := (mkF m 31 #[.val (.long q0), .second, .val (.int p1), .val (.int p2), .val (.int p3), .val (.long vv), .second, .val (.int off), .val (.int sb), .unset, .unset, .unset, .unset] [(.int sb), (.int (0 : Int32)), (.ref b5), (.ref b5)])) rfl rfl (hb hby at_31)
  have K9 : Steps p.tables e below _ (T8.setTop (mkF m 32 #[.val (.long q0), .second, .val (.int p1), .val (.int p2), .val (.int p3), .val (.long vv), .second, .val (.int off), .val (.int sb), .unset, .unset, .unset, .unset] [(.ref b5)])) := K7.trans st8
  have Vw8 : Arv Z h8 b5 k5 .byte (16 : Int32) [(.int (sb.toInt8.toInt32)), (.int (0 : Int32)), (.int (0 : Int32)), (.int (0 : Int32)), (.int (0 : Int32)), (.int (0 : Int32)), (.int (0 : Int32)), (.int (0 : Int32)), (.int (0 : Int32)), (.int (0 : Int32)), (.int (0 : Int32)), (.int (0 : Int32)), (.int (0 : Int32)), (.int (0 : Int32)), (.int (0 : Int32)), (.int (0 : Int32))] (.int (0 : Int32)) := V8
  have N8 := Fr.snoc X8 N0 ge_b5
  obtain ⟨Lg8, Xg8, Ng8⟩ : ∃ Lg, Stand p l e room_1 s m #[(.long q0), (.int p1), (.int p2), (.int p3)] below meth c T8 Lg 1 16 ∧ Fr n0 Lg := ⟨_, X8, N8⟩
  have K10 : Steps p.tables e below _ (T8.setTop (mkF m 36 #[.val (.long q0), .second, .val (.int p1), .val (.int p2), .val (.int p3), .val (.long vv), .second, .val (.int off), .val (.int sb), .unset, .unset, .unset, .unset] [(.int sb), (.int (1 : Int32)), (.ref b5), (.ref b5)])) := K9.trans (by
    refine XS.dup Xg8.here hx rfl (hb hby at_32) rfl rfl ?_
    refine XS.iconst Xg8.here hx rfl (hb hby at_33) ?_
    refine XS.iload Xg8.here hx rfl (hb hby at_34) rfl ?_
    exact Steps.refl _)
  obtain ⟨T11, h11, X11, e11, W11, V11, st11⟩ := own_stB Xg8 hx hZ e8 Vw8 (j := (1 : Int32)) ⟨by decide, by decide⟩ 1 rfl (Nat.le_of_ble_eq_true rfl) (g := (mkF m 36 #[.val (.long q0), .second, .val (.int p1), .val (.int p2), .val (.int p3), .val (.long vv), .second, .val (.int off), .val (.int sb), .unset, .unset, .unset, .unset] [(.int sb), (.int (1 : Int32)), (.ref b5), (.ref b5)])) rfl rfl (hb hby at_36)
  have K12 : Steps p.tables e below _ (T11.setTop (mkF m 37 #[.val (.long q0), .second, .val (.int p1), .val (.int p2), .val (.int p3), .val (.long vv), .second, .val (.int off), .val (.int sb), .unset, .unset, .unset, .unset] [(.ref b5)])) := K10.trans st11
  have Vw11 : Arv Z h11 b5 k5 .byte (16 : Int32) [(.int (sb.toInt8.toInt32)), (.int (sb.toInt8.toInt32)), (.int (0 : Int32)), (.int (0 : Int32)), (.int (0 : Int32)), (.int (0 : Int32)), (.int (0 : Int32)), (.int (0 : Int32)), (.int (0 : Int32)), (.int (0 : Int32)), (.int (0 : Int32)), (.int (0 : Int32)), (.int (0 : Int32)), (.int (0 : Int32)), (.int (0 : Int32)), (.int (0 : Int32))] (.int (0 : Int32)) := V11
  have N11 := Fr.snoc X11 Ng8 ge_b5
  obtain ⟨Lg11, Xg11, Ng11⟩ : ∃ Lg, Stand p l e room_1 s m #[(.long q0), (.int p1), (.int p2), (.int p3)] below meth c T11 Lg 1 16 ∧ Fr n0 Lg := ⟨_, X11, N11⟩
  have K13 : Steps p.tables e below _ (T11.setTop (mkF m 41 #[.val (.long q0), .second, .val (.int p1), .val (.int p2), .val (.int p3), .val (.long vv), .second, .val (.int off), .val (.int sb), .unset, .unset, .unset, .unset] [(.int sb), (.int (2 : Int32)), (.ref b5), (.ref b5)])) := K12.trans (by
    refine XS.dup Xg11.here hx rfl (hb hby at_37) rfl rfl ?_
    refine XS.iconst Xg11.here hx rfl (hb hby at_38) ?_
    refine XS.iload Xg11.here hx rfl (hb hby at_39) rfl ?_
    exact Steps.refl _)
  obtain ⟨T14, h14, X14, e14, W14, V14, st14⟩ := own_stB Xg11 hx hZ e11 Vw11 (j := (2 : Int32)) ⟨by decide, by decide⟩ 2 rfl (Nat.le_of_ble_eq_true rfl) (g := (mkF m 41 #[.val (.long q0), .second, .val (.int p1), .val (.int p2), .val (.int p3), .val (.long vv), .second, .val (.int off), .val (.int sb), .unset, .unset, .unset, .unset] [(.int sb), (.int (2 : Int32)), (.ref b5), (.ref b5)])) rfl rfl (hb hby at_41)
  have K15 : Steps p.tables e below _ (T14.setTop (mkF m 42 #[.val (.long q0), .second, .val (.int p1), .val (.int p2), .val (.int p3), .val (.long vv), .second, .val (.int off), .val (.int sb), .unset, .unset, .unset, .unset] [(.ref b5)])) := K13.trans st14
  have Vw14 : Arv Z h14 b5 k5 .byte (16 : Int32) [(.int (sb.toInt8.toInt32)), (.int (sb.toInt8.toInt32)), (.int (sb.toInt8.toInt32)), (.int (0 : Int32)), (.int (0 : Int32)), (.int (0 : Int32)), (.int (0 : Int32)), (.int (0 : Int32)), (.int (0 : Int32)), (.int (0 : Int32)), (.int (0 : Int32)), (.int (0 : Int32)), (.int (0 : Int32)), (.int (0 : Int32)), (.int (0 : Int32)), (.int (0 : Int32))] (.int (0 : Int32)) := V14
  have N14 := Fr.snoc X14 Ng11 ge_b5
  obtain ⟨Lg14, Xg14, Ng14⟩ : ∃ Lg, Stand p l e room_1 s m #[(.long q0), (.int p1), (.int p2), (.int p3)] below meth c T14 Lg 1 16 ∧ Fr n0 Lg := ⟨_, X14, N14⟩
  have K16 : Steps p.tables e below _ (T14.setTop (mkF m 46 #[.val (.long q0), .second, .val (.int p1), .val (.int p2), .val (.int p3), .val (.long vv), .second, .val (.int off), .val (.int sb), .unset, .unset, .unset, .unset] [(.int sb), (.int (3 : Int32)), (.ref b5), (.ref b5)])) := K15.trans (by
    refine XS.dup Xg14.here hx rfl (hb hby at_42) rfl rfl ?_
    refine XS.iconst Xg14.here hx rfl (hb hby at_43) ?_
    refine XS.iload Xg14.here hx rfl (hb hby at_44) rfl ?_
    exact Steps.refl _)
  obtain ⟨T17, h17, X17, e17, W17, V17, st17⟩ := own_stB Xg14 hx hZ e14 Vw14 (j := (3 : Int32)) ⟨by decide, by decide⟩ 3 rfl (Nat.le_of_ble_eq_true rfl) (g := (mkF m 46 #[.val (.long q0), .second, .val (.int p1), .val (.int p2), .val (.int p3), .val (.long vv), .second, .val (.int off), .val (.int sb), .unset, .unset, .unset, .unset] [(.int sb), (.int (3 : Int32)), (.ref b5), (.ref b5)])) rfl rfl (hb hby at_46)
  have K18 : Steps p.tables e below _ (T17.setTop (mkF m 47 #[.val (.long q0), .second, .val (.int p1), .val (.int p2), .val (.int p3), .val (.long vv), .second, .val (.int off), .val (.int sb), .unset, .unset, .unset, .unset] [(.ref b5)])) := K16.trans st17
  have Vw17 : Arv Z h17 b5 k5 .byte (16 : Int32) [(.int (sb.toInt8.toInt32)), (.int (sb.toInt8.toInt32)), (.int (sb.toInt8.toInt32)), (.int (sb.toInt8.toInt32)), (.int (0 : Int32)), (.int (0 : Int32)), (.int (0 : Int32)), (.int (0 : Int32)), (.int (0 : Int32)), (.int (0 : Int32)), (.int (0 : Int32)), (.int (0 : Int32)), (.int (0 : Int32)), (.int (0 : Int32)), (.int (0 : Int32)), (.int (0 : Int32))] (.int (0 : Int32)) := V17
  have N17 := Fr.snoc X17 Ng14 ge_b5
  obtain ⟨Lg17, Xg17, Ng17⟩ : ∃ Lg, Stand p l e room_1 s m #[(.long q0), (.int p1), (.int p2), (.int p3)] below meth c T17 Lg 1 16 ∧ Fr n0 Lg := ⟨_, X17, N17⟩
  have K19 : Steps p.tables e below _ (T17.setTop (mkF m 51 #[.val (.long q0), .second, .val (.int p1), .val (.int p2), .val (.int p3), .val (.long vv), .second, .val (.int off), .val (.int sb), .unset, .unset, .unset, .unset] [(.int sb), (.int (4 : Int32)), (.ref b5), (.ref b5)])) := K18.trans (by
    refine XS.dup Xg17.here hx rfl (hb hby at_47) rfl rfl ?_
    refine XS.iconst Xg17.here hx rfl (hb hby at_48) ?_
    refine XS.iload Xg17.here hx rfl (hb hby at_49) rfl ?_
    exact Steps.refl _)
  obtain ⟨T20, h20, X20, e20, W20, V20, st20⟩ := own_stB Xg17 hx hZ e17 Vw17 (j := (4 : Int32)) ⟨by decide, by decide⟩ 4 rfl (Nat.le_of_ble_eq_true rfl) (g := (mkF m 51 #[.val (.long q0), .second, .val (.int p1), .val (.int p2), .val (.int p3), .val (.long vv), .second, .val (.int off), .val (.int sb), .unset, .unset, .unset, .unset] [(.int sb), (.int (4 : Int32)), (.ref b5), (.ref b5)])) rfl rfl (hb hby at_51)
  have K21 : Steps p.tables e below _ (T20.setTop (mkF m 52 #[.val (.long q0), .second, .val (.int p1), .val (.int p2), .val (.int p3), .val (.long vv), .second, .val (.int off), .val (.int sb), .unset, .unset, .unset, .unset] [(.ref b5)])) := K19.trans st20
  have Vw20 : Arv Z h20 b5 k5 .byte (16 : Int32) [(.int (sb.toInt8.toInt32)), (.int (sb.toInt8.toInt32)), (.int (sb.toInt8.toInt32)), (.int (sb.toInt8.toInt32)), (.int (sb.toInt8.toInt32)), (.int (0 : Int32)), (.int (0 : Int32)), (.int (0 : Int32)), (.int (0 : Int32)), (.int (0 : Int32)), (.int (0 : Int32)), (.int (0 : Int32)), (.int (0 : Int32)), (.int (0 : Int32)), (.int (0 : Int32)), (.int (0 : Int32))] (.int (0 : Int32)) := V20
  have N20 := Fr.snoc X20 Ng17 ge_b5
  obtain ⟨Lg20, Xg20, Ng20⟩ : ∃ Lg, Stand p l e room_1 s m #[(.long q0), (.int p1), (.int p2), (.int p3)] below meth c T20 Lg 1 16 ∧ Fr n0 Lg := ⟨_, X20, N20⟩
  have K22 : Steps p.tables e below _ (T20.setTop (mkF m 56 #[.val (.long q0), .second, .val (.int p1), .val (.int p2), .val (.int p3), .val (.long vv), .second, .val (.int off), .val (.int sb), .unset, .unset, .unset, .unset] [(.int sb), (.int (5 : Int32)), (.ref b5), (.ref b5)])) := K21.trans (by
    refine XS.dup Xg20.here hx rfl (hb hby at_52) rfl rfl ?_
    refine XS.iconst Xg20.here hx rfl (hb hby at_53) ?_
    refine XS.iload Xg20.here hx rfl (hb hby at_54) rfl ?_
    exact Steps.refl _)
  obtain ⟨T23, h23, X23, e23, W23, V23, st23⟩ := own_stB Xg20 hx hZ e20 Vw20 (j := (5 : Int32)) ⟨by decide, by decide⟩ 5 rfl (Nat.le_of_ble_eq_true rfl) (g := (mkF m 56 #[.val (.long q0), .second, .val (.int p1), .val (.int p2), .val (.int p3), .val (.long vv), .second, .val (.int off), .val (.int sb), .unset, .unset, .unset, .unset] [(.int sb), (.int (5 : Int32)), (.ref b5), (.ref b5)])) rfl rfl (hb hby at_56)
  have K24 : Steps p.tables e below _ (T23.setTop (mkF m 57 #[.val (.long q0), .second, .val (.int p1), .val (.int p2), .val (.int p3), .val (.long vv), .second, .val (.int off), .val (.int sb), .unset, .unset, .unset, .unset] [(.ref b5)])) := K22.trans st23
  have Vw23 : Arv Z h23 b5 k5 .byte (16 : Int32) [(.int (sb.toInt8.toInt32)), (.int (sb.toInt8.toInt32)), (.int (sb.toInt8.toInt32)), (.int (sb.toInt8.toInt32)), (.int (sb.toInt8.toInt32)), (.int (sb.toInt8.toInt32)), (.int (0 : Int32)), (.int (0 : Int32)), (.int (0 : Int32)), (.int (0 : Int32)), (.int (0 : Int32)), (.int (0 : Int32)), (.int (0 : Int32)), (.int (0 : Int32)), (.int (0 : Int32)), (.int (0 : Int32))] (.int (0 : Int32)) := V23
  have N23 := Fr.snoc X23 Ng20 ge_b5
  obtain ⟨Lg23, Xg23, Ng23⟩ : ∃ Lg, Stand p l e room_1 s m #[(.long q0), (.int p1), (.int p2), (.int p3)] below meth c T23 Lg 1 16 ∧ Fr n0 Lg := ⟨_, X23, N23⟩
  have K25 : Steps p.tables e below _ (T23.setTop (mkF m 62 #[.val (.long q0), .second, .val (.int p1), .val (.int p2), .val (.int p3), .val (.long vv), .second, .val (.int off), .val (.int sb), .unset, .unset, .unset, .unset] [(.int sb), (.int (6 : Int32)), (.ref b5), (.ref b5)])) := K24.trans (by
    refine XS.dup Xg23.here hx rfl (hb hby at_57) rfl rfl ?_
    refine XS.bipush Xg23.here hx rfl (hb hby at_58) ?_
    refine XS.iload Xg23.here hx rfl (hb hby at_60) rfl ?_
    exact Steps.refl _)
  obtain ⟨T26, h26, X26, e26, W26, V26, st26⟩ := own_stB Xg23 hx hZ e23 Vw23 (j := (6 : Int32)) ⟨by decide, by decide⟩ 6 rfl (Nat.le_of_ble_eq_true rfl) (g := (mkF m 62 #[.val (.long q0), .second, .val (.int p1), .val (.int p2), .val (.int p3), .val (.long vv), .second, .val (.int off), .val (.int sb), .unset, .unset, .unset, .unset] [(.int sb), (.int (6 : Int32)), (.ref b5), (.ref b5)])) rfl rfl (hb hby at_62)
  have K27 : Steps p.tables e below _ (T26.setTop (mkF m 63 #[.val (.long q0), .second, .val (.int p1), .val (.int p2), .val (.int p3), .val (.long vv), .second, .val (.int off), .val (.int sb), .unset, .unset, .unset, .unset] [(.ref b5)])) := K25.trans st26
  have Vw26 : Arv Z h26 b5 k5 .byte (16 : Int32) [(.int (sb.toInt8.toInt32)), (.int (sb.toInt8.toInt32)), (.int (sb.toInt8.toInt32)), (.int (sb.toInt8.toInt32)), (.int (sb.toInt8.toInt32)), (.int (sb.toInt8.toInt32)), (.int (sb.toInt8.toInt32)), (.int (0 : Int32)), (.int (0 : Int32)), (.int (0 : Int32)), (.int (0 : Int32)), (.int (0 : Int32)), (.int (0 : Int32)), (.int (0 : Int32)), (.int (0 : Int32)), (.int (0 : Int32))] (.int (0 : Int32)) := V26
  have N26 := Fr.snoc X26 Ng23 ge_b5
  obtain ⟨Lg26, Xg26, Ng26⟩ : ∃ Lg, Stand p l e room_1 s m #[(.long q0), (.int p1), (.int p2), (.int p3)] below meth c T26 Lg 1 16 ∧ Fr n0 Lg := ⟨_, X26, N26⟩
  have K28 : Steps p.tables e below _ (T26.setTop (mkF m 68 #[.val (.long q0), .second, .val (.int p1), .val (.int p2), .val (.int p3), .val (.long vv), .second, .val (.int off), .val (.int sb), .unset, .unset, .unset, .unset] [(.int sb), (.int (7 : Int32)), (.ref b5), (.ref b5)])) := K27.trans (by
    refine XS.dup Xg26.here hx rfl (hb hby at_63) rfl rfl ?_
    refine XS.bipush Xg26.here hx rfl (hb hby at_64) ?_
    refine XS.iload Xg26.here hx rfl (hb hby at_66) rfl ?_
    exact Steps.refl _)
  obtain ⟨T29, h29, X29, e29, W29, V29, st29⟩ := own_stB Xg26 hx hZ e26 Vw26 (j := (7 : Int32)) ⟨by decide, by decide⟩ 7 rfl (Nat.le_of_ble_eq_true rfl) (g := (mkF m 68 #[.val (.long q0), .second, .val (.int p1), .val (.int p2), .val (.int p3), .val (.long vv), .second, .val (.int off), .val (.int sb), .unset, .unset, .unset, .unset] [(.int sb), (.int (7 : Int32)), (.ref b5), (.ref b5)])) rfl rfl (hb hby at_68)
  have K30 : Steps p.tables e below _ (T29.setTop (mkF m 69 #[.val (.long q0), .second, .val (.int p1), .val (.int p2), .val (.int p3), .val (.long vv), .second, .val (.int off), .val (.int sb), .unset, .unset, .unset, .unset] [(.ref b5)])) := K28.trans st29
  have Vw29 : Arv Z h29 b5 k5 .byte (16 : Int32) [(.int (sb.toInt8.toInt32)), (.int (sb.toInt8.toInt32)), (.int (sb.toInt8.toInt32)), (.int (sb.toInt8.toInt32)), (.int (sb.toInt8.toInt32)), (.int (sb.toInt8.toInt32)), (.int (sb.toInt8.toInt32)), (.int (sb.toInt8.toInt32)), (.int (0 : Int32)), (.int (0 : Int32)), (.int (0 : Int32)), (.int (0 : Int32)), (.int (0 : Int32)), (.int (0 : Int32)), (.int (0 : Int32)), (.int (0 : Int32))] (.int (0 : Int32)) := V29
  have N29 := Fr.snoc X29 Ng26 ge_b5
  obtain ⟨Lg29, Xg29, Ng29⟩ : ∃ Lg, Stand p l e room_1 s m #[(.long q0), (.int p1), (.int p2), (.int p3)] below meth c T29 Lg 1 16 ∧ Fr n0 Lg := ⟨_, X29, N29⟩
  have K31 : Steps p.tables e below _ (T29.setTop (mkF m 74 #[.val (.long q0), .second, .val (.int p1), .val (.int p2), .val (.int p3), .val (.long vv), .second, .val (.int off), .val (.int sb), .unset, .unset, .unset, .unset] [(.int sb), (.int (8 : Int32)), (.ref b5), (.ref b5)])) := K30.trans (by
    refine XS.dup Xg29.here hx rfl (hb hby at_69) rfl rfl ?_
    refine XS.bipush Xg29.here hx rfl (hb hby at_70) ?_
    refine XS.iload Xg29.here hx rfl (hb hby at_72) rfl ?_
    exact Steps.refl _)
  obtain ⟨T32, h32, X32, e32, W32, V32, st32⟩ := own_stB Xg29 hx hZ e29 Vw29 (j := (8 : Int32)) ⟨by decide, by decide⟩ 8 rfl (Nat.le_of_ble_eq_true rfl) (g := (mkF m 74 #[.val (.long q0), .second, .val (.int p1), .val (.int p2), .val (.int p3), .val (.long vv), .second, .val (.int off), .val (.int sb), .unset, .unset, .unset, .unset] [(.int sb), (.int (8 : Int32)), (.ref b5), (.ref b5)])) rfl rfl (hb hby at_74)
  have K33 : Steps p.tables e below _ (T32.setTop (mkF m 75 #[.val (.long q0), .second, .val (.int p1), .val (.int p2), .val (.int p3), .val (.long vv), .second, .val (.int off), .val (.int sb), .unset, .unset, .unset, .unset] [(.ref b5)])) := K31.trans st32
  have Vw32 : Arv Z h32 b5 k5 .byte (16 : Int32) [(.int (sb.toInt8.toInt32)), (.int (sb.toInt8.toInt32)), (.int (sb.toInt8.toInt32)), (.int (sb.toInt8.toInt32)), (.int (sb.toInt8.toInt32)), (.int (sb.toInt8.toInt32)), (.int (sb.toInt8.toInt32)), (.int (sb.toInt8.toInt32)), (.int (sb.toInt8.toInt32)), (.int (0 : Int32)), (.int (0 : Int32)), (.int (0 : Int32)), (.int (0 : Int32)), (.int (0 : Int32)), (.int (0 : Int32)), (.int (0 : Int32))] (.int (0 : Int32)) := V32
  have N32 := Fr.snoc X32 Ng29 ge_b5
  obtain ⟨Lg32, Xg32, Ng32⟩ : ∃ Lg, Stand p l e room_1 s m #[(.long q0), (.int p1), (.int p2), (.int p3)] below meth c T32 Lg 1 16 ∧ Fr n0 Lg := ⟨_, X32, N32⟩
  have K34 : Steps p.tables e below _ (T32.setTop (mkF m 80 #[.val (.long q0), .second, .val (.int p1), .val (.int p2), .val (.int p3), .val (.long vv), .second, .val (.int off), .val (.int sb), .unset, .unset, .unset, .unset] [(.int sb), (.int (9 : Int32)), (.ref b5), (.ref b5)])) := K33.trans (by
    refine XS.dup Xg32.here hx rfl (hb hby at_75) rfl rfl ?_
    refine XS.bipush Xg32.here hx rfl (hb hby at_76) ?_
    refine XS.iload Xg32.here hx rfl (hb hby at_78) rfl ?_
    exact Steps.refl _)
  obtain ⟨T35, h35, X35, e35, W35, V35, st35⟩ := own_stB Xg32 hx hZ e32 Vw32 (j := (9 : Int32)) ⟨by decide, by decide⟩ 9 rfl (Nat.le_of_ble_eq_true rfl) (g := (mkF m 80 #[.val (.long q0), .second, .val (.int p1), .val (.int p2), .val (.int p3), .val (.long vv), .second, .val (.int off), .val (.int sb), .unset, .unset, .unset, .unset] [(.int sb), (.int (9 : Int32)), (.ref b5), (.ref b5)])) rfl rfl (hb hby at_80)
  have K36 : Steps p.tables e below _ (T35.setTop (mkF m 81 #[.val (.long q0), .second, .val (.int p1), .val (.int p2), .val (.int p3), .val (.long vv), .second, .val (.int off), .val (.int sb), .unset, .unset, .unset, .unset] [(.ref b5)])) := K34.trans st35
  have Vw35 : Arv Z h35 b5 k5 .byte (16 : Int32) [(.int (sb.toInt8.toInt32)), (.int (sb.toInt8.toInt32)), (.int (sb.toInt8.toInt32)), (.int (sb.toInt8.toInt32)), (.int (sb.toInt8.toInt32)), (.int (sb.toInt8.toInt32)), (.int (sb.toInt8.toInt32)), (.int (sb.toInt8.toInt32)), (.int (sb.toInt8.toInt32)), (.int (sb.toInt8.toInt32)), (.int (0 : Int32)), (.int (0 : Int32)), (.int (0 : Int32)), (.int (0 : Int32)), (.int (0 : Int32)), (.int (0 : Int32))] (.int (0 : Int32)) := V35
  have N35 := Fr.snoc X35 Ng32 ge_b5
  obtain ⟨Lg35, Xg35, Ng35⟩ : ∃ Lg, Stand p l e room_1 s m #[(.long q0), (.int p1), (.int p2), (.int p3)] below meth c T35 Lg 1 16 ∧ Fr n0 Lg := ⟨_, X35, N35⟩
  have K37 : Steps p.tables e below _ (T35.setTop (mkF m 86 #[.val (.long q0), .second, .val (.int p1), .val (.int p2), .val (.int p3), .val (.long vv), .second, .val (.int off), .val (.int sb), .unset, .unset, .unset, .unset] [(.int sb), (.int (10 : Int32)), (.ref b5), (.ref b5)])) := K36.trans (by
    refine XS.dup Xg35.here hx rfl (hb hby at_81) rfl rfl ?_
    refine XS.bipush Xg35.here hx rfl (hb hby at_82) ?_
    refine XS.iload Xg35.here hx rfl (hb hby at_84) rfl ?_
    exact Steps.refl _)
  obtain ⟨T38, h38, X38, e38, W38, V38, st38⟩ := own_stB Xg35 hx hZ e35 Vw35 (j := (10 : Int32)) ⟨by decide, by decide⟩ 10 rfl (Nat.le_of_ble_eq_true rfl) (g := (mkF m 86 #[.val (.long q0), .second, .val (.int p1), .val (.int p2), .val (.int p3), .val (.long vv), .second, .val (.int off), .val (.int sb), .unset, .unset, .unset, .unset] [(.int sb), (.int (10 : Int32)), (.ref b5), (.ref b5)])) rfl rfl (hb hby at_86)
  have K39 : Steps p.tables e below _ (T38.setTop (mkF m 87 #[.val (.long q0), .second, .val (.int p1), .val (.int p2), .val (.int p3), .val (.long vv), .second, .val (.int off), .val (.int sb), .unset, .unset, .unset, .unset] [(.ref b5)])) := K37.trans st38
  have Vw38 : Arv Z h38 b5 k5 .byte (16 : Int32) [(.int (sb.toInt8.toInt32)), (.int (sb.toInt8.toInt32)), (.int (sb.toInt8.toInt32)), (.int (sb.toInt8.toInt32)), (.int (sb.toInt8.toInt32)), (.int (sb.toInt8.toInt32)), (.int (sb.toInt8.toInt32)), (.int (sb.toInt8.toInt32)), (.int (sb.toInt8.toInt32)), (.int (sb.toInt8.toInt32)), (.int (sb.toInt8.toInt32)), (.int (0 : Int32)), (.int (0 : Int32)), (.int (0 : Int32)), (.int (0 : Int32)), (.int (0 : Int32))] (.int (0 : Int32)) := V38
  have N38 := Fr.snoc X38 Ng35 ge_b5
  obtain ⟨Lg38, Xg38, Ng38⟩ : ∃ Lg, Stand p l e room_1 s m #[(.long q0), (.int p1), (.int p2), (.int p3)] below meth c T38 Lg 1 16 ∧ Fr n0 Lg := ⟨_, X38, N38⟩
  have K40 : Steps p.tables e below _ (T38.setTop (mkF m 92 #[.val (.long q0), .second, .val (.int p1), .val (.int p2), .val (.int p3), .val (.long vv), .second, .val (.int off), .val (.int sb), .unset, .unset, .unset, .unset] [(.int sb), (.int (11 : Int32)), (.ref b5), (.ref b5)])) := K39.trans (by
    refine XS.dup Xg38.here hx rfl (hb hby at_87) rfl rfl ?_
    refine XS.bipush Xg38.here hx rfl (hb hby at_88) ?_
    refine XS.iload Xg38.here hx rfl (hb hby at_90) rfl ?_
    exact Steps.refl _)
  obtain ⟨T41, h41, X41, e41, W41, V41, st41⟩ := own_stB Xg38 hx hZ e38 Vw38 (j := (11 : Int32)) ⟨by decide, by decide⟩ 11 rfl (Nat.le_of_ble_eq_true rfl) (g := (mkF m 92 #[.val (.long q0), .second, .val (.int p1), .val (.int p2), .val (.int p3), .val (.long vv), .second, .val (.int off), .val (.int sb), .unset, .unset, .unset, .unset] [(.int sb), (.int (11 : Int32)), (.ref b5), (.ref b5)])) rfl rfl (hb hby at_92)
  have K42 : Steps p.tables e below _ (T41.setTop (mkF m 93 #[.val (.long q0), .second, .val (.int p1), .val (.int p2), .val (.int p3), .val (.long vv), .second, .val (.int off), .val (.int sb), .unset, .unset, .unset, .unset] [(.ref b5)])) := K40.trans st41
  have Vw41 : Arv Z h41 b5 k5 .byte (16 : Int32) [(.int (sb.toInt8.toInt32)), (.int (sb.toInt8.toInt32)), (.int (sb.toInt8.toInt32)), (.int (sb.toInt8.toInt32)), (.int (sb.toInt8.toInt32)), (.int (sb.toInt8.toInt32)), (.int (sb.toInt8.toInt32)), (.int (sb.toInt8.toInt32)), (.int (sb.toInt8.toInt32)), (.int (sb.toInt8.toInt32)), (.int (sb.toInt8.toInt32)), (.int (sb.toInt8.toInt32)), (.int (0 : Int32)), (.int (0 : Int32)), (.int (0 : Int32)), (.int (0 : Int32))] (.int (0 : Int32)) := V41
  have N41 := Fr.snoc X41 Ng38 ge_b5
  obtain ⟨Lg41, Xg41, Ng41⟩ : ∃ Lg, Stand p l e room_1 s m #[(.long q0), (.int p1), (.int p2), (.int p3)] below meth c T41 Lg 1 16 ∧ Fr n0 Lg := ⟨_, X41, N41⟩
  have K43 : Steps p.tables e below _ (T41.setTop (mkF m 98 #[.val (.long q0), .second, .val (.int p1), .val (.int p2), .val (.int p3), .val (.long vv), .second, .val (.int off), .val (.int sb), .unset, .unset, .unset, .unset] [(.int sb), (.int (12 : Int32)), (.ref b5), (.ref b5)])) := K42.trans (by
    refine XS.dup Xg41.here hx rfl (hb hby at_93) rfl rfl ?_
    refine XS.bipush Xg41.here hx rfl (hb hby at_94) ?_
    refine XS.iload Xg41.here hx rfl (hb hby at_96) rfl ?_
    exact Steps.refl _)
  obtain ⟨T44, h44, X44, e44, W44, V44, st44⟩ := own_stB Xg41 hx hZ e41 Vw41 (j := (12 : Int32)) ⟨by decide, by decide⟩ 12 rfl (Nat.le_of_ble_eq_true rfl) (g := (mkF m 98 #[.val (.long q0), .second, .val (.int p1), .val (.int p2), .val (.int p3), .val (.long vv), .second, .val (.int off), .val (.int sb), .unset, .unset, .unset, .unset] [(.int sb), (.int (12 : Int32)), (.ref b5), (.ref b5)])) rfl rfl (hb hby at_98)
  have K45 : Steps p.tables e below _ (T44.setTop (mkF m 99 #[.val (.long q0), .second, .val (.int p1), .val (.int p2), .val (.int p3), .val (.long vv), .second, .val (.int off), .val (.int sb), .unset, .unset, .unset, .unset] [(.ref b5)])) := K43.trans st44
  have Vw44 : Arv Z h44 b5 k5 .byte (16 : Int32) [(.int (sb.toInt8.toInt32)), (.int (sb.toInt8.toInt32)), (.int (sb.toInt8.toInt32)), (.int (sb.toInt8.toInt32)), (.int (sb.toInt8.toInt32)), (.int (sb.toInt8.toInt32)), (.int (sb.toInt8.toInt32)), (.int (sb.toInt8.toInt32)), (.int (sb.toInt8.toInt32)), (.int (sb.toInt8.toInt32)), (.int (sb.toInt8.toInt32)), (.int (sb.toInt8.toInt32)), (.int (sb.toInt8.toInt32)), (.int (0 : Int32)), (.int (0 : Int32)), (.int (0 : Int32))] (.int (0 : Int32)) := V44
  have N44 := Fr.snoc X44 Ng41 ge_b5
  obtain ⟨Lg44, Xg44, Ng44⟩ : ∃ Lg, Stand p l e room_1 s m #[(.long q0), (.int p1), (.int p2), (.int p3)] below meth c T44 Lg 1 16 ∧ Fr n0 Lg := ⟨_, X44, N44⟩
  have K46 : Steps p.tables e below _ (T44.setTop (mkF m 104 #[.val (.long q0), .second, .val (.int p1), .val (.int p2), .val (.int p3), .val (.long vv), .second, .val (.int off), .val (.int sb), .unset, .unset, .unset, .unset] [(.int sb), (.int (13 : Int32)), (.ref b5), (.ref b5)])) := K45.trans (by
    refine XS.dup Xg44.here hx rfl (hb hby at_99) rfl rfl ?_
    refine XS.bipush Xg44.here hx rfl (hb hby at_100) ?_
    refine XS.iload Xg44.here hx rfl (hb hby at_102) rfl ?_
    exact Steps.refl _)
  obtain ⟨T47, h47, X47, e47, W47, V47, st47⟩ := own_stB Xg44 hx hZ e44 Vw44 (j := (13 : Int32)) ⟨by decide, by decide⟩ 13 rfl (Nat.le_of_ble_eq_true rfl) (g := (mkF m 104 #[.val (.long q0), .second, .val (.int p1), .val (.int p2), .val (.int p3), .val (.long vv), .second, .val (.int off), .val (.int sb), .unset, .unset, .unset, .unset] [(.int sb), (.int (13 : Int32)), (.ref b5), (.ref b5)])) rfl rfl (hb hby at_104)
  have K48 : Steps p.tables e below _ (T47.setTop (mkF m 105 #[.val (.long q0), .second, .val (.int p1), .val (.int p2), .val (.int p3), .val (.long vv), .second, .val (.int off), .val (.int sb), .unset, .unset, .unset, .unset] [(.ref b5)])) := K46.trans st47
  have Vw47 : Arv Z h47 b5 k5 .byte (16 : Int32) [(.int (sb.toInt8.toInt32)), (.int (sb.toInt8.toInt32)), (.int (sb.toInt8.toInt32)), (.int (sb.toInt8.toInt32)), (.int (sb.toInt8.toInt32)), (.int (sb.toInt8.toInt32)), (.int (sb.toInt8.toInt32)), (.int (sb.toInt8.toInt32)), (.int (sb.toInt8.toInt32)), (.int (sb.toInt8.toInt32)), (.int (sb.toInt8.toInt32)), (.int (sb.toInt8.toInt32)), (.int (sb.toInt8.toInt32)), (.int (sb.toInt8.toInt32)), (.int (0 : Int32)), (.int (0 : Int32))] (.int (0 : Int32)) := V47
  have N47 := Fr.snoc X47 Ng44 ge_b5
  obtain ⟨Lg47, Xg47, Ng47⟩ : ∃ Lg, Stand p l e room_1 s m #[(.long q0), (.int p1), (.int p2), (.int p3)] below meth c T47 Lg 1 16 ∧ Fr n0 Lg := ⟨_, X47, N47⟩
  have K49 : Steps p.tables e below _ (T47.setTop (mkF m 110 #[.val (.long q0), .second, .val (.int p1), .val (.int p2), .val (.int p3), .val (.long vv), .second, .val (.int off), .val (.int sb), .unset, .unset, .unset, .unset] [(.int sb), (.int (14 : Int32)), (.ref b5), (.ref b5)])) := K48.trans (by
    refine XS.dup Xg47.here hx rfl (hb hby at_105) rfl rfl ?_
    refine XS.bipush Xg47.here hx rfl (hb hby at_106) ?_
    refine XS.iload Xg47.here hx rfl (hb hby at_108) rfl ?_
    exact Steps.refl _)
  obtain ⟨T50, h50, X50, e50, W50, V50, st50⟩ := own_stB Xg47 hx hZ e47 Vw47 (j := (14 : Int32)) ⟨by decide, by decide⟩ 14 rfl (Nat.le_of_ble_eq_true rfl) (g := (mkF m 110 #[.val (.long q0), .second, .val (.int p1), .val (.int p2), .val (.int p3), .val (.long vv), .second, .val (.int off), .val (.int sb), .unset, .unset, .unset, .unset] [(.int sb), (.int (14 : Int32)), (.ref b5), (.ref b5)])) rfl rfl (hb hby at_110)
  have K51 : Steps p.tables e below _ (T50.setTop (mkF m 111 #[.val (.long q0), .second, .val (.int p1), .val (.int p2), .val (.int p3), .val (.long vv), .second, .val (.int off), .val (.int sb), .unset, .unset, .unset, .unset] [(.ref b5)])) := K49.trans st50
  have Vw50 : Arv Z h50 b5 k5 .byte (16 : Int32) [(.int (sb.toInt8.toInt32)), (.int (sb.toInt8.toInt32)), (.int (sb.toInt8.toInt32)), (.int (sb.toInt8.toInt32)), (.int (sb.toInt8.toInt32)), (.int (sb.toInt8.toInt32)), (.int (sb.toInt8.toInt32)), (.int (sb.toInt8.toInt32)), (.int (sb.toInt8.toInt32)), (.int (sb.toInt8.toInt32)), (.int (sb.toInt8.toInt32)), (.int (sb.toInt8.toInt32)), (.int (sb.toInt8.toInt32)), (.int (sb.toInt8.toInt32)), (.int (sb.toInt8.toInt32)), (.int (0 : Int32))] (.int (0 : Int32)) := V50
  have N50 := Fr.snoc X50 Ng47 ge_b5
  obtain ⟨Lg50, Xg50, Ng50⟩ : ∃ Lg, Stand p l e room_1 s m #[(.long q0), (.int p1), (.int p2), (.int p3)] below meth c T50 Lg 1 16 ∧ Fr n0 Lg := ⟨_, X50, N50⟩
  have K52 : Steps p.tables e below _ (T50.setTop (mkF m 116 #[.val (.long q0), .second, .val (.int p1), .val (.int p2), .val (.int p3), .val (.long vv), .second, .val (.int off), .val (.int sb), .unset, .unset, .unset, .unset] [(.int sb), (.int (15 : Int32)), (.ref b5), (.ref b5)])) := K51.trans (by
    refine XS.dup Xg50.here hx rfl (hb hby at_111) rfl rfl ?_
    refine XS.bipush Xg50.here hx rfl (hb hby at_112) ?_
    refine XS.iload Xg50.here hx rfl (hb hby at_114) rfl ?_
    exact Steps.refl _)
  obtain ⟨T53, h53, X53, e53, W53, V53, st53⟩ := own_stB Xg50 hx hZ e50 Vw50 (j := (15 : Int32)) ⟨by decide, by decide⟩ 15 rfl (Nat.le_of_ble_eq_true rfl) (g := (mkF m 116 #[.val (.long q0), .second, .val (.int p1), .val (.int p2), .val (.int p3), .val (.long vv), .second, .val (.int off), .val (.int sb), .unset, .unset, .unset, .unset] [(.int sb), (.int (15 : Int32)), (.ref b5), (.ref b5)])) rfl rfl (hb hby at_116)
  have K54 : Steps p.tables e below _ (T53.setTop (mkF m 117 #[.val (.long q0), .second, .val (.int p1), .val (.int p2), .val (.int p3), .val (.long vv), .second, .val (.int off), .val (.int sb), .unset, .unset, .unset, .unset] [(.ref b5)])) := K52.trans st53
  have Vw53 : Arv Z h53 b5 k5 .byte (16 : Int32) [(.int (sb.toInt8.toInt32)), (.int (sb.toInt8.toInt32)), (.int (sb.toInt8.toInt32)), (.int (sb.toInt8.toInt32)), (.int (sb.toInt8.toInt32)), (.int (sb.toInt8.toInt32)), (.int (sb.toInt8.toInt32)), (.int (sb.toInt8.toInt32)), (.int (sb.toInt8.toInt32)), (.int (sb.toInt8.toInt32)), (.int (sb.toInt8.toInt32)), (.int (sb.toInt8.toInt32)), (.int (sb.toInt8.toInt32)), (.int (sb.toInt8.toInt32)), (.int (sb.toInt8.toInt32)), (.int (sb.toInt8.toInt32))] (.int (0 : Int32)) := V53
  have N53 := Fr.snoc X53 Ng50 ge_b5
  obtain ⟨Lg53, Xg53, Ng53⟩ : ∃ Lg, Stand p l e room_1 s m #[(.long q0), (.int p1), (.int p2), (.int p3)] below meth c T53 Lg 1 16 ∧ Fr n0 Lg := ⟨_, X53, N53⟩
  obtain ⟨vs1, hvs1⟩ : ∃ z : List Value, [(.int (sb.toInt8.toInt32)), (.int (sb.toInt8.toInt32)), (.int (sb.toInt8.toInt32)), (.int (sb.toInt8.toInt32)), (.int (sb.toInt8.toInt32)), (.int (sb.toInt8.toInt32)), (.int (sb.toInt8.toInt32)), (.int (sb.toInt8.toInt32)), (.int (sb.toInt8.toInt32)), (.int (sb.toInt8.toInt32)), (.int (sb.toInt8.toInt32)), (.int (sb.toInt8.toInt32)), (.int (sb.toInt8.toInt32)), (.int (sb.toInt8.toInt32)), (.int (sb.toInt8.toInt32)), (.int (sb.toInt8.toInt32))] = z := ⟨_, rfl⟩
  rw [hvs1] at Vw53
  have K55 : Steps p.tables e below _ (T53.setTop (mkF m 123 #[.val (.long q0), .second, .val (.int p1), .val (.int p2), .val (.int p3), .val (.long vv), .second, .val (.int off), .val (.int sb), .val (.ref b5), .unset, .unset, .unset] [(.int (1 : Int32)), (.long vv), (.int (1 : Int32))])) := K54.trans (by
    refine XS.astore Xg53.here hx rfl (hb hby at_117) rfl rfl (l' := #[.val (.long q0), .second, .val (.int p1), .val (.int p2), .val (.int p3), .val (.long vv), .second, .val (.int off), .val (.int sb), .val (.ref b5), .unset, .unset, .unset]) rfl ?_
    refine XS.iconst Xg53.here hx rfl (hb hby at_119) ?_
    refine XS.lload Xg53.here hx rfl (hb hby at_120) rfl ?_
    refine XS.iconst Xg53.here hx rfl (hb hby at_122) ?_
    exact Steps.refl _)
  have Z_56 : n0 ≤ h53.size := (Nat.le_trans (Nat.le_trans (Nat.le_trans (Nat.le_trans (Nat.le_trans (Nat.le_trans (Nat.le_trans (Nat.le_trans (Nat.le_trans (Nat.le_trans (Nat.le_trans (Nat.le_trans (Nat.le_trans (Nat.le_trans (Nat.le_trans (Nat.le_trans (Nat.le_trans Z0 E5.1) (Keep.of_wr W8).1) (Keep.of_wr W11).1) (Keep.of_wr W14).1) (Keep.of_wr W17).1) (Keep.of_wr W20).1) (Keep.of_wr W23).1) (Keep.of_wr W26).1) (Keep.of_wr W29).1) (Keep.of_wr W32).1) (Keep.of_wr W35).1) (Keep.of_wr W38).1) (Keep.of_wr W41).1) (Keep.of_wr W44).1) (Keep.of_wr W47).1) (Keep.of_wr W50).1) (Keep.of_wr W53).1)
  obtain ⟨_, _, ⟨T57, L57, k57, n57⟩, -, X57, ⟨Lc57, hQ57, l57, y57, z57⟩, st57⟩ := Jvm.LawKit.callS Xg53 hx (y := (⟨"com/example/windward/windward/storage/VarIntsWritePinLaw", "more", "(JI)I"⟩ : MethodName)) hown (mvT hZ (hw _ (List.mem_of_getElem? (i := 2) rfl))) (mvT hZ (hw _ (List.mem_of_getElem? (i := 3) rfl))) (mvT hZ (hw _ (List.mem_of_getElem? (i := 4) rfl))) (mvT hZ (hw _ (List.mem_of_getElem? (i := 5) rfl))) (by decide) (backOf (W := 1) (rm1 l Z a0 hw [] vv (1 : Int32) h53 n0 Z_56 ) hZ (hw _ (List.mem_of_getElem? (i := 5) rfl)) (hw _ (List.mem_of_getElem? (i := 4) rfl)) (by decide) (by decide)) (g := (mkF m 123 #[.val (.long q0), .second, .val (.int p1), .val (.int p2), .val (.int p3), .val (.long vv), .second, .val (.int off), .val (.int sb), .val (.ref b5), .unset, .unset, .unset] [(.int (1 : Int32)), (.long vv), (.int (1 : Int32))])) rfl (by rw [hml]; rfl) (argsL := [(.long vv), (.int (1 : Int32))]) (rest := [(.int (1 : Int32))]) (lenOf pd_0 rfl) rfl (by show 2 * 0 + _ ≤ _; exact Nat.le_of_eq rfl) (hb hby at_123) (fun _ _ => ⟨rfl, e53, (by decide : 1 + 0 ≤ _), (by decide : 16 + 0 ≤ _)⟩)
  dsimp only [Pt.U, Pt.locs, Pt.cells, Pt.slots] at X57 l57 y57 z57 st57 hQ57
  subst l57 y57 z57
  obtain ⟨rfl, N57, eh57⟩ := hQ57
  have N57' := Fr.app Ng53 N57
  obtain ⟨Lg57, Xg57, Ng57⟩ : ∃ Lg, Stand p l e room_1 s m #[(.long q0), (.int p1), (.int p2), (.int p3)] below meth c T57 Lg 1 16 ∧ Fr n0 Lg := ⟨_, X57, N57'⟩
  have K59 : Steps p.tables e below _ (T57.setTop (mkF m 126 #[.val (.long q0), .second, .val (.int p1), .val (.int p2), .val (.int p3), .val (.long vv), .second, .val (.int off), .val (.int sb), .val (.ref b5), .unset, .unset, .unset] [(.int (f_rm1 vv (1 : Int32))), (.int (1 : Int32))])) := K55.trans (st57 _ (Steps.refl _))
  obtain ⟨r58, hr58⟩ : ∃ z : Int32, (f_rm1 vv (1 : Int32)) = z := ⟨_, rfl⟩
  rw [hr58] at K59
  have K60 : Steps p.tables e below _ (T57.setTop (mkF m 130 #[.val (.long q0), .second, .val (.int p1), .val (.int p2), .val (.int p3), .val (.long vv), .second, .val (.int off), .val (.int sb), .val (.ref b5), .unset, .unset, .unset] [(.int (2 : Int32)), (.long vv), (.int ((1 : Int32) + r58))])) := K59.trans (by
    refine XS.iadd Xg57.here hx rfl (hb hby at_126) rfl ?_
    refine XS.lload Xg57.here hx rfl (hb hby at_127) rfl ?_
    refine XS.iconst Xg57.here hx rfl (hb hby at_129) ?_
    exact Steps.refl _)
  obtain ⟨_, _, ⟨T61, L61, k61, n61⟩, -, X61, ⟨Lc61, hQ61, l61, y61, z61⟩, st61⟩ := Jvm.LawKit.callS Xg57 hx (y := (⟨"com/example/windward/windward/storage/VarIntsWritePinLaw", "more", "(JI)I"⟩ : MethodName)) hown (mvT hZ (hw _ (List.mem_of_getElem? (i := 2) rfl))) (mvT hZ (hw _ (List.mem_of_getElem? (i := 3) rfl))) (mvT hZ (hw _ (List.mem_of_getElem? (i := 4) rfl))) (mvT hZ (hw _ (List.mem_of_getElem? (i := 5) rfl))) (by decide) (backOf (W := 1) (rm1 l Z a0 hw [] vv (2 : Int32) h53 n0 Z_56 ) hZ (hw _ (List.mem_of_getElem? (i := 5) rfl)) (hw _ (List.mem_of_getElem? (i := 4) rfl)) (by decide) (by decide)) (g := (mkF m 130 #[.val (.long q0), .second, .val (.int p1), .val (.int p2), .val (.int p3), .val (.long vv), .second, .val (.int off), .val (.int sb), .val (.ref b5), .unset, .unset, .unset] [(.int (2 : Int32)), (.long vv), (.int ((1 : Int32) + r58))])) rfl (by rw [hml]; rfl) (argsL := [(.long vv), (.int (2 : Int32))]) (rest := [(.int ((1 : Int32) + r58))]) (lenOf pd_0 rfl) rfl (by show 2 * 0 + _ ≤ _; exact Nat.le_of_eq rfl) (hb hby at_130) (fun _ _ => ⟨rfl, eh57, (by decide : 1 + 0 ≤ _), (by decide : 16 + 0 ≤ _)⟩)
  dsimp only [Pt.U, Pt.locs, Pt.cells, Pt.slots] at X61 l61 y61 z61 st61 hQ61
  subst l61 y61 z61
  obtain ⟨rfl, N61, eh61⟩ := hQ61
  have N61' := Fr.app Ng57 N61
  obtain ⟨Lg61, Xg61, Ng61⟩ : ∃ Lg, Stand p l e room_1 s m #[(.long q0), (.int p1), (.int p2), (.int p3)] below meth c T61 Lg 1 16 ∧ Fr n0 Lg := ⟨_, X61, N61'⟩
  have K63 : Steps p.tables e below _ (T61.setTop (mkF m 133 #[.val (.long q0), .second, .val (.int p1), .val (.int p2), .val (.int p3), .val (.long vv), .second, .val (.int off), .val (.int sb), .val (.ref b5), .unset, .unset, .unset] [(.int (f_rm1 vv (2 : Int32))), (.int ((1 : Int32) + r58))])) := K60.trans (st61 _ (Steps.refl _))
  obtain ⟨r62, hr62⟩ : ∃ z : Int32, (f_rm1 vv (2 : Int32)) = z := ⟨_, rfl⟩
  rw [hr62] at K63
  have K64 : Steps p.tables e below _ (T61.setTop (mkF m 137 #[.val (.long q0), .second, .val (.int p1), .val (.int p2), .val (.int p3), .val (.long vv), .second, .val (.int off), .val (.int sb), .val (.ref b5), .unset, .unset, .unset] [(.int (3 : Int32)), (.long vv), (.int (((1 : Int32) + r58) + r62))])) := K63.trans (by
    refine XS.iadd Xg61.here hx rfl (hb hby at_133) rfl ?_
    refine XS.lload Xg61.here hx rfl (hb hby at_134) rfl ?_
    refine XS.iconst Xg61.here hx rfl (hb hby at_136) ?_
    exact Steps.refl _)
  obtain ⟨_, _, ⟨T65, L65, k65, n65⟩, -, X65, ⟨Lc65, hQ65, l65, y65, z65⟩, st65⟩ := Jvm.LawKit.callS Xg61 hx (y := (⟨"com/example/windward/windward/storage/VarIntsWritePinLaw", "more", "(JI)I"⟩ : MethodName)) hown (mvT hZ (hw _ (List.mem_of_getElem? (i := 2) rfl))) (mvT hZ (hw _ (List.mem_of_getElem? (i := 3) rfl))) (mvT hZ (hw _ (List.mem_of_getElem? (i := 4) rfl))) (mvT hZ (hw _ (List.mem_of_getElem? (i := 5) rfl))) (by decide) (backOf (W := 1) (rm1 l Z a0 hw [] vv (3 : Int32) h53 n0 Z_56 ) hZ (hw _ (List.mem_of_getElem? (i := 5) rfl)) (hw _ (List.mem_of_getElem? (i := 4) rfl)) (by decide) (by decide)) (g := (mkF m 137 #[.val (.long q0), .second, .val (.int p1), .val (.int p2), .val (.int p3), .val (.long vv), .second, .val (.int off), .val (.int sb), .val (.ref b5), .unset, .unset, .unset] [(.int (3 : Int32)), (.long vv), (.int (((1 : Int32) + r58) + r62))])) rfl (by rw [hml]; rfl) (argsL := [(.long vv), (.int (3 : Int32))]) (rest := [(.int (((1 : Int32) + r58) + r62))]) (lenOf pd_0 rfl) rfl (by show 2 * 0 + _ ≤ _; exact Nat.le_of_eq rfl) (hb hby at_137) (fun _ _ => ⟨rfl, eh61, (by decide : 1 + 0 ≤ _), (by decide : 16 + 0 ≤ _)⟩)
  dsimp only [Pt.U, Pt.locs, Pt.cells, Pt.slots] at X65 l65 y65 z65 st65 hQ65
  subst l65 y65 z65
  obtain ⟨rfl, N65, eh65⟩ := hQ65
  have N65' := Fr.app Ng61 N65
  obtain ⟨Lg65, Xg65, Ng65⟩ : ∃ Lg, Stand p l e room_1 s m #[(.long q0), (.int p1), (.int p2), (.int p3)] below meth c T65 Lg 1 16 ∧ Fr n0 Lg := ⟨_, X65, N65'⟩
  have K67 : Steps p.tables e below _ (T65.setTop (mkF m 140 #[.val (.long q0), .second, .val (.int p1), .val (.int p2), .val (.int p3), .val (.long vv), .second, .val (.int off), .val (.int sb), .val (.ref b5), .unset, .unset, .unset] [(.int (f_rm1 vv (3 : Int32))), (.int (((1 : Int32) + r58) + r62))])) := K64.trans (st65 _ (Steps.refl _))
  obtain ⟨r66, hr66⟩ : ∃ z : Int32, (f_rm1 vv (3 : Int32)) = z := ⟨_, rfl⟩
  rw [hr66] at K67
  have K68 : Steps p.tables e below _ (T65.setTop (mkF m 144 #[.val (.long q0), .second, .val (.int p1), .val (.int p2), .val (.int p3), .val (.long vv), .second, .val (.int off), .val (.int sb), .val (.ref b5), .unset, .unset, .unset] [(.int (4 : Int32)), (.long vv), (.int ((((1 : Int32) + r58) + r62) + r66))])) := K67.trans (by
    refine XS.iadd Xg65.here hx rfl (hb hby at_140) rfl ?_
    refine XS.lload Xg65.here hx rfl (hb hby at_141) rfl ?_
    refine XS.iconst Xg65.here hx rfl (hb hby at_143) ?_
    exact Steps.refl _)
  obtain ⟨_, _, ⟨T69, L69, k69, n69⟩, -, X69, ⟨Lc69, hQ69, l69, y69, z69⟩, st69⟩ := Jvm.LawKit.callS Xg65 hx (y := (⟨"com/example/windward/windward/storage/VarIntsWritePinLaw", "more", "(JI)I"⟩ : MethodName)) hown (mvT hZ (hw _ (List.mem_of_getElem? (i := 2) rfl))) (mvT hZ (hw _ (List.mem_of_getElem? (i := 3) rfl))) (mvT hZ (hw _ (List.mem_of_getElem? (i := 4) rfl))) (mvT hZ (hw _ (List.mem_of_getElem? (i := 5) rfl))) (by decide) (backOf (W := 1) (rm1 l Z a0 hw [] vv (4 : Int32) h53 n0 Z_56 ) hZ (hw _ (List.mem_of_getElem? (i := 5) rfl)) (hw _ (List.mem_of_getElem? (i := 4) rfl)) (by decide) (by decide)) (g := (mkF m 144 #[.val (.long q0), .second, .val (.int p1), .val (.int p2), .val (.int p3), .val (.long vv), .second, .val (.int off), .val (.int sb), .val (.ref b5), .unset, .unset, .unset] [(.int (4 : Int32)), (.long vv), (.int ((((1 : Int32) + r58) + r62) + r66))])) rfl (by rw [hml]; rfl) (argsL := [(.long vv), (.int (4 : Int32))]) (rest := [(.int ((((1 : Int32) + r58) + r62) + r66))]) (lenOf pd_0 rfl) rfl (by show 2 * 0 + _ ≤ _; exact Nat.le_of_eq rfl) (hb hby at_144) (fun _ _ => ⟨rfl, eh65, (by decide : 1 + 0 ≤ _), (by decide : 16 + 0 ≤ _)⟩)
  dsimp only [Pt.U, Pt.locs, Pt.cells, Pt.slots] at X69 l69 y69 z69 st69 hQ69
  subst l69 y69 z69
  obtain ⟨rfl, N69, eh69⟩ := hQ69
  have N69' := Fr.app Ng65 N69
  obtain ⟨Lg69, Xg69, Ng69⟩ : ∃ Lg, Stand p l e room_1 s m #[(.long q0), (.int p1), (.int p2), (.int p3)] below meth c T69 Lg 1 16 ∧ Fr n0 Lg := ⟨_, X69, N69'⟩
  have K71 : Steps p.tables e below _ (T69.setTop (mkF m 147 #[.val (.long q0), .second, .val (.int p1), .val (.int p2), .val (.int p3), .val (.long vv), .second, .val (.int off), .val (.int sb), .val (.ref b5), .unset, .unset, .unset] [(.int (f_rm1 vv (4 : Int32))), (.int ((((1 : Int32) + r58) + r62) + r66))])) := K68.trans (st69 _ (Steps.refl _))
  obtain ⟨r70, hr70⟩ : ∃ z : Int32, (f_rm1 vv (4 : Int32)) = z := ⟨_, rfl⟩
  rw [hr70] at K71
  have K72 : Steps p.tables e below _ (T69.setTop (mkF m 151 #[.val (.long q0), .second, .val (.int p1), .val (.int p2), .val (.int p3), .val (.long vv), .second, .val (.int off), .val (.int sb), .val (.ref b5), .unset, .unset, .unset] [(.int (5 : Int32)), (.long vv), (.int (((((1 : Int32) + r58) + r62) + r66) + r70))])) := K71.trans (by
    refine XS.iadd Xg69.here hx rfl (hb hby at_147) rfl ?_
    refine XS.lload Xg69.here hx rfl (hb hby at_148) rfl ?_
    refine XS.iconst Xg69.here hx rfl (hb hby at_150) ?_
    exact Steps.refl _)
  obtain ⟨_, _, ⟨T73, L73, k73, n73⟩, -, X73, ⟨Lc73, hQ73, l73, y73, z73⟩, st73⟩ := Jvm.LawKit.callS Xg69 hx (y := (⟨"com/example/windward/windward/storage/VarIntsWritePinLaw", "more", "(JI)I"⟩ : MethodName)) hown (mvT hZ (hw _ (List.mem_of_getElem? (i := 2) rfl))) (mvT hZ (hw _ (List.mem_of_getElem? (i := 3) rfl))) (mvT hZ (hw _ (List.mem_of_getElem? (i := 4) rfl))) (mvT hZ (hw _ (List.mem_of_getElem? (i := 5) rfl))) (by decide) (backOf (W := 1) (rm1 l Z a0 hw [] vv (5 : Int32) h53 n0 Z_56 ) hZ (hw _ (List.mem_of_getElem? (i := 5) rfl)) (hw _ (List.mem_of_getElem? (i := 4) rfl)) (by decide) (by decide)) (g := (mkF m 151 #[.val (.long q0), .second, .val (.int p1), .val (.int p2), .val (.int p3), .val (.long vv), .second, .val (.int off), .val (.int sb), .val (.ref b5), .unset, .unset, .unset] [(.int (5 : Int32)), (.long vv), (.int (((((1 : Int32) + r58) + r62) + r66) + r70))])) rfl (by rw [hml]; rfl) (argsL := [(.long vv), (.int (5 : Int32))]) (rest := [(.int (((((1 : Int32) + r58) + r62) + r66) + r70))]) (lenOf pd_0 rfl) rfl (by show 2 * 0 + _ ≤ _; exact Nat.le_of_eq rfl) (hb hby at_151) (fun _ _ => ⟨rfl, eh69, (by decide : 1 + 0 ≤ _), (by decide : 16 + 0 ≤ _)⟩)
  dsimp only [Pt.U, Pt.locs, Pt.cells, Pt.slots] at X73 l73 y73 z73 st73 hQ73
  subst l73 y73 z73
  obtain ⟨rfl, N73, eh73⟩ := hQ73
  have N73' := Fr.app Ng69 N73
  obtain ⟨Lg73, Xg73, Ng73⟩ : ∃ Lg, Stand p l e room_1 s m #[(.long q0), (.int p1), (.int p2), (.int p3)] below meth c T73 Lg 1 16 ∧ Fr n0 Lg := ⟨_, X73, N73'⟩
  have K75 : Steps p.tables e below _ (T73.setTop (mkF m 154 #[.val (.long q0), .second, .val (.int p1), .val (.int p2), .val (.int p3), .val (.long vv), .second, .val (.int off), .val (.int sb), .val (.ref b5), .unset, .unset, .unset] [(.int (f_rm1 vv (5 : Int32))), (.int (((((1 : Int32) + r58) + r62) + r66) + r70))])) := K72.trans (st73 _ (Steps.refl _))
  obtain ⟨r74, hr74⟩ : ∃ z : Int32, (f_rm1 vv (5 : Int32)) = z := ⟨_, rfl⟩
  rw [hr74] at K75
  have K76 : Steps p.tables e below _ (T73.setTop (mkF m 159 #[.val (.long q0), .second, .val (.int p1), .val (.int p2), .val (.int p3), .val (.long vv), .second, .val (.int off), .val (.int sb), .val (.ref b5), .unset, .unset, .unset] [(.int (6 : Int32)), (.long vv), (.int ((((((1 : Int32) + r58) + r62) + r66) + r70) + r74))])) := K75.trans (by
    refine XS.iadd Xg73.here hx rfl (hb hby at_154) rfl ?_
    refine XS.lload Xg73.here hx rfl (hb hby at_155) rfl ?_
    refine XS.bipush Xg73.here hx rfl (hb hby at_157) ?_
    exact Steps.refl _)
  obtain ⟨_, _, ⟨T77, L77, k77, n77⟩, -, X77, ⟨Lc77, hQ77, l77, y77, z77⟩, st77⟩ := Jvm.LawKit.callS Xg73 hx (y := (⟨"com/example/windward/windward/storage/VarIntsWritePinLaw", "more", "(JI)I"⟩ : MethodName)) hown (mvT hZ (hw _ (List.mem_of_getElem? (i := 2) rfl))) (mvT hZ (hw _ (List.mem_of_getElem? (i := 3) rfl))) (mvT hZ (hw _ (List.mem_of_getElem? (i := 4) rfl))) (mvT hZ (hw _ (List.mem_of_getElem? (i := 5) rfl))) (by decide) (backOf (W := 1) (rm1 l Z a0 hw [] vv (6 : Int32) h53 n0 Z_56 ) hZ (hw _ (List.mem_of_getElem? (i := 5) rfl)) (hw _ (List.mem_of_getElem? (i := 4) rfl)) (by decide) (by decide)) (g := (mkF m 159 #[.val (.long q0), .second, .val (.int p1), .val (.int p2), .val (.int p3), .val (.long vv), .second, .val (.int off), .val (.int sb), .val (.ref b5), .unset, .unset, .unset] [(.int (6 : Int32)), (.long vv), (.int ((((((1 : Int32) + r58) + r62) + r66) + r70) + r74))])) rfl (by rw [hml]; rfl) (argsL := [(.long vv), (.int (6 : Int32))]) (rest := [(.int ((((((1 : Int32) + r58) + r62) + r66) + r70) + r74))]) (lenOf pd_0 rfl) rfl (by show 2 * 0 + _ ≤ _; exact Nat.le_of_eq rfl) (hb hby at_159) (fun _ _ => ⟨rfl, eh73, (by decide : 1 + 0 ≤ _), (by decide : 16 + 0 ≤ _)⟩)
  dsimp only [Pt.U, Pt.locs, Pt.cells, Pt.slots] at X77 l77 y77 z77 st77 hQ77
  subst l77 y77 z77
  obtain ⟨rfl, N77, eh77⟩ := hQ77
  have N77' := Fr.app Ng73 N77
  obtain ⟨Lg77, Xg77, Ng77⟩ : ∃ Lg, Stand p l e room_1 s m #[(.long q0), (.int p1), (.int p2), (.int p3)] below meth c T77 Lg 1 16 ∧ Fr n0 Lg := ⟨_, X77, N77'⟩
  have K79 : Steps p.tables e below _ (T77.setTop (mkF m 162 #[.val (.long q0), .second, .val (.int p1), .val (.int p2), .val (.int p3), .val (.long vv), .second, .val (.int off), .val (.int sb), .val (.ref b5), .unset, .unset, .unset] [(.int (f_rm1 vv (6 : Int32))), (.int ((((((1 : Int32) + r58) + r62) + r66) + r70) + r74))])) := K76.trans (st77 _ (Steps.refl _))
  obtain ⟨r78, hr78⟩ : ∃ z : Int32, (f_rm1 vv (6 : Int32)) = z := ⟨_, rfl⟩
  rw [hr78] at K79
  have K80 : Steps p.tables e below _ (T77.setTop (mkF m 167 #[.val (.long q0), .second, .val (.int p1), .val (.int p2), .val (.int p3), .val (.long vv), .second, .val (.int off), .val (.int sb), .val (.ref b5), .unset, .unset, .unset] [(.int (7 : Int32)), (.long vv), (.int (((((((1 : Int32) + r58) + r62) + r66) + r70) + r74) + r78))])) := K79.trans (by
    refine XS.iadd Xg77.here hx rfl (hb hby at_162) rfl ?_
    refine XS.lload Xg77.here hx rfl (hb hby at_163) rfl ?_
    refine XS.bipush Xg77.here hx rfl (hb hby at_165) ?_
    exact Steps.refl _)
  obtain ⟨_, _, ⟨T81, L81, k81, n81⟩, -, X81, ⟨Lc81, hQ81, l81, y81, z81⟩, st81⟩ := Jvm.LawKit.callS Xg77 hx (y := (⟨"com/example/windward/windward/storage/VarIntsWritePinLaw", "more", "(JI)I"⟩ : MethodName)) hown (mvT hZ (hw _ (List.mem_of_getElem? (i := 2) rfl))) (mvT hZ (hw _ (List.mem_of_getElem? (i := 3) rfl))) (mvT hZ (hw _ (List.mem_of_getElem? (i := 4) rfl))) (mvT hZ (hw _ (List.mem_of_getElem? (i := 5) rfl))) (by decide) (backOf (W := 1) (rm1 l Z a0 hw [] vv (7 : Int32) h53 n0 Z_56 ) hZ (hw _ (List.mem_of_getElem? (i := 5) rfl)) (hw _ (List.mem_of_getElem? (i := 4) rfl)) (by decide) (by decide)) (g := (mkF m 167 #[.val (.long q0), .second, .val (.int p1), .val (.int p2), .val (.int p3), .val (.long vv), .second, .val (.int off), .val (.int sb), .val (.ref b5), .unset, .unset, .unset] [(.int (7 : Int32)), (.long vv), (.int (((((((1 : Int32) + r58) + r62) + r66) + r70) + r74) + r78))])) rfl (by rw [hml]; rfl) (argsL := [(.long vv), (.int (7 : Int32))]) (rest := [(.int (((((((1 : Int32) + r58) + r62) + r66) + r70) + r74) + r78))]) (lenOf pd_0 rfl) rfl (by show 2 * 0 + _ ≤ _; exact Nat.le_of_eq rfl) (hb hby at_167) (fun _ _ => ⟨rfl, eh77, (by decide : 1 + 0 ≤ _), (by decide : 16 + 0 ≤ _)⟩)
  dsimp only [Pt.U, Pt.locs, Pt.cells, Pt.slots] at X81 l81 y81 z81 st81 hQ81
  subst l81 y81 z81
  obtain ⟨rfl, N81, eh81⟩ := hQ81
  have N81' := Fr.app Ng77 N81
  obtain ⟨Lg81, Xg81, Ng81⟩ : ∃ Lg, Stand p l e room_1 s m #[(.long q0), (.int p1), (.int p2), (.int p3)] below meth c T81 Lg 1 16 ∧ Fr n0 Lg := ⟨_, X81, N81'⟩
  have K83 : Steps p.tables e below _ (T81.setTop (mkF m 170 #[.val (.long q0), .second, .val (.int p1), .val (.int p2), .val (.int p3), .val (.long vv), .second, .val (.int off), .val (.int sb), .val (.ref b5), .unset, .unset, .unset] [(.int (f_rm1 vv (7 : Int32))), (.int (((((((1 : Int32) + r58) + r62) + r66) + r70) + r74) + r78))])) := K80.trans (st81 _ (Steps.refl _))
  obtain ⟨r82, hr82⟩ : ∃ z : Int32, (f_rm1 vv (7 : Int32)) = z := ⟨_, rfl⟩
  rw [hr82] at K83
  have K84 : Steps p.tables e below _ (T81.setTop (mkF m 175 #[.val (.long q0), .second, .val (.int p1), .val (.int p2), .val (.int p3), .val (.long vv), .second, .val (.int off), .val (.int sb), .val (.ref b5), .unset, .unset, .unset] [(.int (8 : Int32)), (.long vv), (.int ((((((((1 : Int32) + r58) + r62) + r66) + r70) + r74) + r78) + r82))])) := K83.trans (by
    refine XS.iadd Xg81.here hx rfl (hb hby at_170) rfl ?_
    refine XS.lload Xg81.here hx rfl (hb hby at_171) rfl ?_
    refine XS.bipush Xg81.here hx rfl (hb hby at_173) ?_
    exact Steps.refl _)
  obtain ⟨_, _, ⟨T85, L85, k85, n85⟩, -, X85, ⟨Lc85, hQ85, l85, y85, z85⟩, st85⟩ := Jvm.LawKit.callS Xg81 hx (y := (⟨"com/example/windward/windward/storage/VarIntsWritePinLaw", "more", "(JI)I"⟩ : MethodName)) hown (mvT hZ (hw _ (List.mem_of_getElem? (i := 2) rfl))) (mvT hZ (hw _ (List.mem_of_getElem? (i := 3) rfl))) (mvT hZ (hw _ (List.mem_of_getElem? (i := 4) rfl))) (mvT hZ (hw _ (List.mem_of_getElem? (i := 5) rfl))) (by decide) (backOf (W := 1) (rm1 l Z a0 hw [] vv (8 : Int32) h53 n0 Z_56 ) hZ (hw _ (List.mem_of_getElem? (i := 5) rfl)) (hw _ (List.mem_of_getElem? (i := 4) rfl)) (by decide) (by decide)) (g := (mkF m 175 #[.val (.long q0), .second, .val (.int p1), .val (.int p2), .val (.int p3), .val (.long vv), .second, .val (.int off), .val (.int sb), .val (.ref b5), .unset, .unset, .unset] [(.int (8 : Int32)), (.long vv), (.int ((((((((1 : Int32) + r58) + r62) + r66) + r70) + r74) + r78) + r82))])) rfl (by rw [hml]; rfl) (argsL := [(.long vv), (.int (8 : Int32))]) (rest := [(.int ((((((((1 : Int32) + r58) + r62) + r66) + r70) + r74) + r78) + r82))]) (lenOf pd_0 rfl) rfl (by show 2 * 0 + _ ≤ _; exact Nat.le_of_eq rfl) (hb hby at_175) (fun _ _ => ⟨rfl, eh81, (by decide : 1 + 0 ≤ _), (by decide : 16 + 0 ≤ _)⟩)
  dsimp only [Pt.U, Pt.locs, Pt.cells, Pt.slots] at X85 l85 y85 z85 st85 hQ85
  subst l85 y85 z85
  obtain ⟨rfl, N85, eh85⟩ := hQ85
  have N85' := Fr.app Ng81 N85
  obtain ⟨Lg85, Xg85, Ng85⟩ : ∃ Lg, Stand p l e room_1 s m #[(.long q0), (.int p1), (.int p2), (.int p3)] below meth c T85 Lg 1 16 ∧ Fr n0 Lg := ⟨_, X85, N85'⟩
  have K87 : Steps p.tables e below _ (T85.setTop (mkF m 178 #[.val (.long q0), .second, .val (.int p1), .val (.int p2), .val (.int p3), .val (.long vv), .second, .val (.int off), .val (.int sb), .val (.ref b5), .unset, .unset, .unset] [(.int (f_rm1 vv (8 : Int32))), (.int ((((((((1 : Int32) + r58) + r62) + r66) + r70) + r74) + r78) + r82))])) := K84.trans (st85 _ (Steps.refl _))
  obtain ⟨r86, hr86⟩ : ∃ z : Int32, (f_rm1 vv (8 : Int32)) = z := ⟨_, rfl⟩
  rw [hr86] at K87
  have K88 : Steps p.tables e below _ (T85.setTop (mkF m 179 #[.val (.long q0), .second, .val (.int p1), .val (.int p2), .val (.int p3), .val (.long vv), .second, .val (.int off), .val (.int sb), .val (.ref b5), .unset, .unset, .unset] [(.int (((((((((1 : Int32) + r58) + r62) + r66) + r70) + r74) + r78) + r82) + r86))])) := K87.trans (by
    refine XS.iadd Xg85.here hx rfl (hb hby at_178) rfl ?_
    exact Steps.refl _)
  obtain ⟨nn, hnn⟩ : ∃ z : Int32, (((((((((1 : Int32) + r58) + r62) + r66) + r70) + r74) + r78) + r82) + r86) = z := ⟨_, rfl⟩
  rw [hnn] at K88
  have K89 : Steps p.tables e below _ (T85.setTop (mkF m 187 #[.val (.long q0), .second, .val (.int p1), .val (.int p2), .val (.int p3), .val (.long vv), .second, .val (.int off), .val (.int sb), .val (.ref b5), .val (.int nn), .unset, .unset] [(.long vv), (.int off), (.ref b5)])) := K88.trans (by
    refine XS.istore Xg85.here hx rfl (hb hby at_179) rfl (l' := #[.val (.long q0), .second, .val (.int p1), .val (.int p2), .val (.int p3), .val (.long vv), .second, .val (.int off), .val (.int sb), .val (.ref b5), .val (.int nn), .unset, .unset]) rfl ?_
    refine XS.aload Xg85.here hx rfl (hb hby at_181) rfl rfl ?_
    refine XS.iload Xg85.here hx rfl (hb hby at_183) rfl ?_
    refine XS.lload Xg85.here hx rfl (hb hby at_185) rfl ?_
    exact Steps.refl _)
  obtain ⟨_, _, ⟨T90, L90, k90, n90⟩, -, X90, ⟨Lc90, hQ90, l90, y90, z90⟩, st90⟩ := Jvm.LawKit.callS Xg85 hx (y := (⟨"com/example/windward/windward/storage/VarInts", "write", "([BIJ)I"⟩ : MethodName)) hown (mvT hZ (hw _ (List.mem_of_getElem? (i := 6) rfl))) (mvT hZ (hw _ (List.mem_of_getElem? (i := 7) rfl))) (mvT hZ (hw _ (List.mem_of_getElem? (i := 8) rfl))) (mvT hZ (hw _ (List.mem_of_getElem? (i := 9) rfl))) (by decide) (backOf (W := 0) (rm2 l Z a0 hw [] b5 off vv k5 vs1 h53 n0 Z_56 Vw53 ge_b5 (own_hv hvv) (own_hj hoff) (own_hl hvs1) (own_hb (own_hl hvs1) (own_hv hvv) (own_hj hoff)) (own_hb2 (own_hl hvs1) (own_hv hvv) (own_hj hoff))) hZ (hw _ (List.mem_of_getElem? (i := 9) rfl)) (hw _ (List.mem_of_getElem? (i := 8) rfl)) (by decide) (by decide)) (g := (mkF m 187 #[.val (.long q0), .second, .val (.int p1), .val (.int p2), .val (.int p3), .val (.long vv), .second, .val (.int off), .val (.int sb), .val (.ref b5), .val (.int nn), .unset, .unset] [(.long vv), (.int off), (.ref b5)])) rfl (by rw [hml]; rfl) (argsL := [(.ref b5), (.int off), (.long vv)]) (rest := []) (lenOf pd_1 rfl) rfl (by show 2 * 0 + _ ≤ _; exact Nat.le_of_eq rfl) (hb hby at_187) (fun _ _ => ⟨rfl, eh85, (by decide : 1 + 0 ≤ _), (by decide : 16 + 0 ≤ _)⟩)
  dsimp only [Pt.U, Pt.locs, Pt.cells, Pt.slots] at X90 l90 y90 z90 st90 hQ90
  subst l90 y90 z90
  obtain ⟨rfl, N90, Kp90, Q90_0⟩ := hQ90
  have N90' := Fr.app Ng85 N90
  obtain ⟨Lg90, Xg90, Ng90⟩ : ∃ Lg, Stand p l e room_1 s m #[(.long q0), (.int p1), (.int p2), (.int p3)] below meth c T90 Lg 1 16 ∧ Fr n0 Lg := ⟨_, X90, N90'⟩
  have K92 : Steps p.tables e below _ (T90.setTop (mkF m 190 #[.val (.long q0), .second, .val (.int p1), .val (.int p2), .val (.int p3), .val (.long vv), .second, .val (.int off), .val (.int sb), .val (.ref b5), .val (.int nn), .unset, .unset] [(.int (f_rm2 off vv vs1))])) := K89.trans (st90 _ (Steps.refl _))
  obtain ⟨r91, hr91⟩ : ∃ z : Int32, (f_rm2 off vv vs1) = z := ⟨_, rfl⟩
  rw [hr91] at K92
  obtain ⟨vsx, hvsx⟩ : ∃ z : List Value, ((wl 8 vs1 vv off).1.set (wl 8 vs1 vv off).2.2.toNatClampNeg (.int ((((wl 8 vs1 vv off).2.1.toInt32).toInt8.toInt32).toInt8.toInt32))) = z := ⟨_, rfl⟩
  rw [hvsx] at Q90_0
  have hai := own_ai_w (own_ai1 hvs1) _ _ _ hvsx
  have K93 : Steps p.tables e below _ (T90.setTop (mkF m 199 #[.val (.long q0), .second, .val (.int p1), .val (.int p2), .val (.int p3), .val (.long vv), .second, .val (.int off), .val (.int sb), .val (.ref b5), .val (.int nn), .val (.int r91), .unset] [(.int (off + nn)), (.int r91)])) := K92.trans (by
    refine XS.istore Xg90.here hx rfl (hb hby at_190) rfl (l' := #[.val (.long q0), .second, .val (.int p1), .val (.int p2), .val (.int p3), .val (.long vv), .second, .val (.int off), .val (.int sb), .val (.ref b5), .val (.int nn), .val (.int r91), .unset]) rfl ?_
    refine XS.iload Xg90.here hx rfl (hb hby at_192) rfl ?_
    refine XS.iload Xg90.here hx rfl (hb hby at_194) rfl ?_
    refine XS.iload Xg90.here hx rfl (hb hby at_196) rfl ?_
    refine XS.iadd Xg90.here hx rfl (hb hby at_198) rfl ?_
    show Steps p.tables e below (T90.setTop (mkF m 199 #[.val (.long q0), .second, .val (.int p1), .val (.int p2), .val (.int p3), .val (.long vv), .second, .val (.int off), .val (.int sb), .val (.ref b5), .val (.int nn), .val (.int r91), .unset] [(.int (off + nn)), (.int r91)])) _
    exact Steps.refl _)
  obtain ⟨v94_0, hv94_0, S94⟩ : ∃ (v94_0 : Int32), (if r91 = (off + nn) then (1 : Int32) else (0 : Int32)) = v94_0 ∧ Steps p.tables e below (T90.setTop (mkF m 199 #[.val (.long q0), .second, .val (.int p1), .val (.int p2), .val (.int p3), .val (.long vv), .second, .val (.int off), .val (.int sb), .val (.ref b5), .val (.int nn), .val (.int r91), .unset] [(.int (off + nn)), (.int r91)])) (T90.setTop (mkF m 207 #[.val (.long q0), .second, .val (.int p1), .val (.int p2), .val (.int p3), .val (.long vv), .second, .val (.int off), .val (.int sb), .val (.ref b5), .val (.int nn), .val (.int r91), .unset] [(.int v94_0)])) := by
    have R94 := Steps.refl (tb := p.tables) (e := e) (below := below) (T90.setTop (mkF m 199 #[.val (.long q0), .second, .val (.int p1), .val (.int p2), .val (.int p3), .val (.long vv), .second, .val (.int off), .val (.int sb), .val (.ref b5), .val (.int nn), .val (.int r91), .unset] [(.int (off + nn)), (.int r91)]))
    by_cases hc199 : r91 = (off + nn)
    · have K95 : Steps p.tables e below _ (T90.setTop (mkF m 207 #[.val (.long q0), .second, .val (.int p1), .val (.int p2), .val (.int p3), .val (.long vv), .second, .val (.int off), .val (.int sb), .val (.ref b5), .val (.int nn), .val (.int r91), .unset] [(.int (1 : Int32))])) := R94.trans (by
        refine XS.icmpNo Xg90.here hx rfl (hb hby at_199) rfl (teq hc199).2 ?_
        refine XS.iconst Xg90.here hx rfl (hb hby at_202) ?_
        refine XS.goto Xg90.here hx rfl (pc0 := 203) (pc' := 207) rfl (hb hby at_203) (by decide) (by decide) ?_
        exact Steps.refl _)
      exact ⟨(1 : Int32), (by rw [if_pos hc199]), K95⟩
    · have K96 : Steps p.tables e below _ (T90.setTop (mkF m 207 #[.val (.long q0), .second, .val (.int p1), .val (.int p2), .val (.int p3), .val (.long vv), .second, .val (.int off), .val (.int sb), .val (.ref b5), .val (.int nn), .val (.int r91), .unset] [(.int (0 : Int32))])) := R94.trans (by
        refine XS.icmpYes Xg90.here hx rfl (pc0 := 199) (pc' := 206) rfl (hb hby at_199) rfl (feq hc199).2 (by decide) (by decide) ?_
        refine XS.iconst Xg90.here hx rfl (hb hby at_206) ?_
        exact Steps.refl _)
      exact ⟨(0 : Int32), (by rw [if_neg hc199]), K96⟩
  have K97 := K93.trans S94
  have K98 : Steps p.tables e below _ (T90.setTop (mkF m 211 #[.val (.long q0), .second, .val (.int p1), .val (.int p2), .val (.int p3), .val (.long vv), .second, .val (.int off), .val (.int sb), .val (.ref b5), .val (.int nn), .val (.int r91), .val (.int v94_0)] [(.int v94_0)])) := K97.trans (by
    refine XS.istore Xg90.here hx rfl (hb hby at_207) rfl (l' := #[.val (.long q0), .second, .val (.int p1), .val (.int p2), .val (.int p3), .val (.long vv), .second, .val (.int off), .val (.int sb), .val (.ref b5), .val (.int nn), .val (.int r91), .val (.int v94_0)]) rfl ?_
    refine XS.iload Xg90.here hx rfl (hb hby at_209) rfl ?_
    exact Steps.refl _)
  obtain ⟨T99, L99, v99_0, X99, e99, N99, hv99_0, S99⟩ : ∃ (T99 : State) (L99 : List Loc) (v99_0 : Int32), Stand p l e room_1 s m #[(.long q0), (.int p1), (.int p2), (.int p3)] below meth c T99 L99 1 16 ∧ T99.heap = T90.heap ∧ Fr n0 L99 ∧ (if v94_0 = (0 : Int32) then (0 : Int32) else (if (f_rm3 (0 : Int32) off nn vv sb (own_by vsx (0 : Int32))) = (0 : Int32) then (0 : Int32) else (1 : Int32))) = v99_0 ∧ Steps p.tables e below (T90.setTop (mkF m 211 #[.val (.long q0), .second, .val (.int p1), .val (.int p2), .val (.int p3), .val (.long vv), .second, .val (.int off), .val (.int sb), .val (.ref b5), .val (.int nn), .val (.int r91), .val (.int v94_0)] [(.int v94_0)])) (T99.setTop (mkF m 236 #[.val (.long q0), .second, .val (.int p1), .val (.int p2), .val (.int p3), .val (.long vv), .second, .val (.int off), .val (.int sb), .val (.ref b5), .val (.int nn), .val (.int r91), .val (.int v94_0)] [(.int v99_0)])) := by
    have R99 := Steps.refl (tb := p.tables) (e := e) (below := below) (T90.setTop (mkF m 211 #[.val (.long q0), .second, .val (.int p1), .val (.int p2), .val (.int p3), .val (.long vv), .second, .val (.int off), .val (.int sb), .val (.ref b5), .val (.int nn), .val (.int r91), .val (.int v94_0)] [(.int v94_0)]))
    by_cases hc211 : v94_0 = (0 : Int32)
    · have K100 : Steps p.tables e below _ (T90.setTop (mkF m 236 #[.val (.long q0), .second, .val (.int p1), .val (.int p2), .val (.int p3), .val (.long vv), .second, .val (.int off), .val (.int sb), .val (.ref b5), .val (.int nn), .val (.int r91), .val (.int v94_0)] [(.int (0 : Int32))])) := R99.trans (by
        refine XS.ifYes Xg90.here hx rfl (pc0 := 211) (pc' := 235) rfl (hb hby at_211) rfl ((if0 _ _).trans (teq hc211).1) (by decide) (by decide) ?_
        refine XS.iconst Xg90.here hx rfl (hb hby at_235) ?_
        exact Steps.refl _)
      exact ⟨T90, _, (0 : Int32), Xg90, rfl, Ng90, (by rw [if_pos hc211]), K100⟩
    · have K101 : Steps p.tables e below _ (T90.setTop (mkF m 225 #[.val (.long q0), .second, .val (.int p1), .val (.int p2), .val (.int p3), .val (.long vv), .second, .val (.int off), .val (.int sb), .val (.ref b5), .val (.int nn), .val (.int r91), .val (.int v94_0)] [(.int sb), (.long vv), (.int nn), (.int off), (.int (0 : Int32)), (.ref b5)])) := R99.trans (by
        refine XS.ifNo Xg90.here hx rfl (hb hby at_211) rfl ((if0 _ _).trans (feq hc211).1) ?_
        refine XS.aload Xg90.here hx rfl (hb hby at_214) rfl rfl ?_
        refine XS.iconst Xg90.here hx rfl (hb hby at_216) ?_
        refine XS.iload Xg90.here hx rfl (hb hby at_217) rfl ?_
        refine XS.iload Xg90.here hx rfl (hb hby at_219) rfl ?_
        show Steps p.tables e below (T90.setTop (mkF m 221 #[.val (.long q0), .second, .val (.int p1), .val (.int p2), .val (.int p3), .val (.long vv), .second, .val (.int off), .val (.int sb), .val (.ref b5), .val (.int nn), .val (.int r91), .val (.int v94_0)] [(.int nn), (.int off), (.int (0 : Int32)), (.ref b5)])) _
        refine XS.lload Xg90.here hx rfl (hb hby at_221) rfl ?_
        refine XS.iload Xg90.here hx rfl (hb hby at_223) rfl ?_
        exact Steps.refl _)
      have Z_102 : n0 ≤ T90.heap.size := (Nat.le_trans Z_56 Kp90.1)
      obtain ⟨_, _, ⟨T103, L103, k103, n103⟩, -, X103, ⟨Lc103, hQ103, l103, y103, z103⟩, st103⟩ := Jvm.LawKit.callS Xg90 hx (y := (⟨"com/example/windward/windward/storage/VarIntsWritePinLaw", "at", "([BIIIJB)Z"⟩ : MethodName)) hown (mvT hZ (hw _ (List.mem_of_getElem? (i := 11) rfl))) (mvT hZ (hw _ (List.mem_of_getElem? (i := 12) rfl))) (mvT hZ (hw _ (List.mem_of_getElem? (i := 4) rfl))) (mvT hZ (hw _ (List.mem_of_getElem? (i := 13) rfl))) (by decide) (backOf (W := 0) (rm3 l Z a0 hw [] b5 (0 : Int32) off nn vv sb k5 vsx (own_by vsx (0 : Int32)) T90.heap n0 Z_102 Q90_0 (by decide) (hai _)) hZ (hw _ (List.mem_of_getElem? (i := 13) rfl)) (hw _ (List.mem_of_getElem? (i := 4) rfl)) (by decide) (by decide)) (g := (mkF m 225 #[.val (.long q0), .second, .val (.int p1), .val (.int p2), .val (.int p3), .val (.long vv), .second, .val (.int off), .val (.int sb), .val (.ref b5), .val (.int nn), .val (.int r91), .val (.int v94_0)] [(.int sb), (.long vv), (.int nn), (.int off), (.int (0 : Int32)), (.ref b5)])) rfl (by rw [hml]; rfl) (argsL := [(.ref b5), (.int (0 : Int32)), (.int off), (.int nn), (.long vv), (.int sb)]) (rest := []) (lenOf pd_2 rfl) rfl (by show 2 * 0 + _ ≤ _; exact Nat.le_of_eq rfl) (hb hby at_225) (fun _ _ => ⟨rfl, rfl, (by decide : 1 + 0 ≤ _), (by decide : 16 + 0 ≤ _)⟩)
      dsimp only [Pt.U, Pt.locs, Pt.cells, Pt.slots] at X103 l103 y103 z103 st103 hQ103
      subst l103 y103 z103
      obtain ⟨rfl, N103, eh103⟩ := hQ103
      have N103' := Fr.app Ng90 N103
      obtain ⟨Lg103, Xg103, Ng103⟩ : ∃ Lg, Stand p l e room_1 s m #[(.long q0), (.int p1), (.int p2), (.int p3)] below meth c T103 Lg 1 16 ∧ Fr n0 Lg := ⟨_, X103, N103'⟩
      have K105 : Steps p.tables e below _ (T103.setTop (mkF m 228 #[.val (.long q0), .second, .val (.int p1), .val (.int p2), .val (.int p3), .val (.long vv), .second, .val (.int off), .val (.int sb), .val (.ref b5), .val (.int nn), .val (.int r91), .val (.int v94_0)] [(.int (f_rm3 (0 : Int32) off nn vv sb (own_by vsx (0 : Int32))))])) := K101.trans (st103 _ (Steps.refl _))
      obtain ⟨r104, hr104⟩ : ∃ z : Int32, (f_rm3 (0 : Int32) off nn vv sb (own_by vsx (0 : Int32))) = z := ⟨_, rfl⟩
      rw [hr104] at K105
      by_cases hc228 : r104 = (0 : Int32)
      · have K106 : Steps p.tables e below _ (T103.setTop (mkF m 236 #[.val (.long q0), .second, .val (.int p1), .val (.int p2), .val (.int p3), .val (.long vv), .second, .val (.int off), .val (.int sb), .val (.ref b5), .val (.int nn), .val (.int r91), .val (.int v94_0)] [(.int (0 : Int32))])) := K105.trans (by
          refine XS.ifYes Xg103.here hx rfl (pc0 := 228) (pc' := 235) rfl (hb hby at_228) rfl ((if0 _ _).trans (teq hc228).1) (by decide) (by decide) ?_
          refine XS.iconst Xg103.here hx rfl (hb hby at_235) ?_
          exact Steps.refl _)
        subst hr104
        exact ⟨T103, _, (0 : Int32), Xg103, eh103, Ng103, (by rw [if_neg hc211, if_pos hc228]), K106⟩
      · have K107 : Steps p.tables e below _ (T103.setTop (mkF m 236 #[.val (.long q0), .second, .val (.int p1), .val (.int p2), .val (.int p3), .val (.long vv), .second, .val (.int off), .val (.int sb), .val (.ref b5), .val (.int nn), .val (.int r91), .val (.int v94_0)] [(.int (1 : Int32))])) := K105.trans (by
          refine XS.ifNo Xg103.here hx rfl (hb hby at_228) rfl ((if0 _ _).trans (feq hc228).1) ?_
          refine XS.iconst Xg103.here hx rfl (hb hby at_231) ?_
          refine XS.goto Xg103.here hx rfl (pc0 := 232) (pc' := 236) rfl (hb hby at_232) (by decide) (by decide) ?_
          exact Steps.refl _)
        subst hr104
        exact ⟨T103, _, (1 : Int32), Xg103, eh103, Ng103, (by rw [if_neg hc211, if_neg hc228]), K107⟩
  have K108 := K98.trans S99
  have K109 : Steps p.tables e below _ (T99.setTop (mkF m 240 #[.val (.long q0), .second, .val (.int p1), .val (.int p2), .val (.int p3), .val (.long vv), .second, .val (.int off), .val (.int sb), .val (.ref b5), .val (.int nn), .val (.int r91), .val (.int v99_0)] [(.int v99_0)])) := K108.trans (by
    refine XS.istore X99.here hx rfl (hb hby at_236) rfl (l' := #[.val (.long q0), .second, .val (.int p1), .val (.int p2), .val (.int p3), .val (.long vv), .second, .val (.int off), .val (.int sb), .val (.ref b5), .val (.int nn), .val (.int r91), .val (.int v99_0)]) rfl ?_
    refine XS.iload X99.here hx rfl (hb hby at_238) rfl ?_
    exact Steps.refl _)
  obtain ⟨T110, L110, v110_0, X110, e110, N110, hv110_0, S110⟩ : ∃ (T110 : State) (L110 : List Loc) (v110_0 : Int32), Stand p l e room_1 s m #[(.long q0), (.int p1), (.int p2), (.int p3)] below meth c T110 L110 1 16 ∧ T110.heap = T90.heap ∧ Fr n0 L110 ∧ (if v99_0 = (0 : Int32) then (0 : Int32) else (if (f_rm3 (1 : Int32) off nn vv sb (own_by vsx (1 : Int32))) = (0 : Int32) then (0 : Int32) else (1 : Int32))) = v110_0 ∧ Steps p.tables e below (T99.setTop (mkF m 240 #[.val (.long q0), .second, .val (.int p1), .val (.int p2), .val (.int p3), .val (.long vv), .second, .val (.int off), .val (.int sb), .val (.ref b5), .val (.int nn), .val (.int r91), .val (.int v99_0)] [(.int v99_0)])) (T110.setTop (mkF m 265 #[.val (.long q0), .second, .val (.int p1), .val (.int p2), .val (.int p3), .val (.long vv), .second, .val (.int off), .val (.int sb), .val (.ref b5), .val (.int nn), .val (.int r91), .val (.int v99_0)] [(.int v110_0)])) := by
    have R110 := Steps.refl (tb := p.tables) (e := e) (below := below) (T99.setTop (mkF m 240 #[.val (.long q0), .second, .val (.int p1), .val (.int p2), .val (.int p3), .val (.long vv), .second, .val (.int off), .val (.int sb), .val (.ref b5), .val (.int nn), .val (.int r91), .val (.int v99_0)] [(.int v99_0)]))
    by_cases hc240 : v99_0 = (0 : Int32)
    · have K111 : Steps p.tables e below _ (T99.setTop (mkF m 265 #[.val (.long q0), .second, .val (.int p1), .val (.int p2), .val (.int p3), .val (.long vv), .second, .val (.int off), .val (.int sb), .val (.ref b5), .val (.int nn), .val (.int r91), .val (.int v99_0)] [(.int (0 : Int32))])) := R110.trans (by
        refine XS.ifYes X99.here hx rfl (pc0 := 240) (pc' := 264) rfl (hb hby at_240) rfl ((if0 _ _).trans (teq hc240).1) (by decide) (by decide) ?_
        refine XS.iconst X99.here hx rfl (hb hby at_264) ?_
        exact Steps.refl _)
      exact ⟨T99, _, (0 : Int32), X99, e99, N99, (by rw [if_pos hc240]), K111⟩
    · have K112 : Steps p.tables e below _ (T99.setTop (mkF m 254 #[.val (.long q0), .second, .val (.int p1), .val (.int p2), .val (.int p3), .val (.long vv), .second, .val (.int off), .val (.int sb), .val (.ref b5), .val (.int nn), .val (.int r91), .val (.int v99_0)] [(.int sb), (.long vv), (.int nn), (.int off), (.int (1 : Int32)), (.ref b5)])) := R110.trans (by
        refine XS.ifNo X99.here hx rfl (hb hby at_240) rfl ((if0 _ _).trans (feq hc240).1) ?_
        refine XS.aload X99.here hx rfl (hb hby at_243) rfl rfl ?_
        refine XS.iconst X99.here hx rfl (hb hby at_245) ?_
        refine XS.iload X99.here hx rfl (hb hby at_246) rfl ?_
        refine XS.iload X99.here hx rfl (hb hby at_248) rfl ?_
        show Steps p.tables e below (T99.setTop (mkF m 250 #[.val (.long q0), .second, .val (.int p1), .val (.int p2), .val (.int p3), .val (.long vv), .second, .val (.int off), .val (.int sb), .val (.ref b5), .val (.int nn), .val (.int r91), .val (.int v99_0)] [(.int nn), (.int off), (.int (1 : Int32)), (.ref b5)])) _
        refine XS.lload X99.here hx rfl (hb hby at_250) rfl ?_
        refine XS.iload X99.here hx rfl (hb hby at_252) rfl ?_
        exact Steps.refl _)
      have Z_113 : n0 ≤ T90.heap.size := (Nat.le_trans Z_56 Kp90.1)
      obtain ⟨_, _, ⟨T114, L114, k114, n114⟩, -, X114, ⟨Lc114, hQ114, l114, y114, z114⟩, st114⟩ := Jvm.LawKit.callS X99 hx (y := (⟨"com/example/windward/windward/storage/VarIntsWritePinLaw", "at", "([BIIIJB)Z"⟩ : MethodName)) hown (mvT hZ (hw _ (List.mem_of_getElem? (i := 11) rfl))) (mvT hZ (hw _ (List.mem_of_getElem? (i := 12) rfl))) (mvT hZ (hw _ (List.mem_of_getElem? (i := 4) rfl))) (mvT hZ (hw _ (List.mem_of_getElem? (i := 13) rfl))) (by decide) (backOf (W := 0) (rm3 l Z a0 hw [] b5 (1 : Int32) off nn vv sb k5 vsx (own_by vsx (1 : Int32)) T90.heap n0 Z_113 Q90_0 (by decide) (hai _)) hZ (hw _ (List.mem_of_getElem? (i := 13) rfl)) (hw _ (List.mem_of_getElem? (i := 4) rfl)) (by decide) (by decide)) (g := (mkF m 254 #[.val (.long q0), .second, .val (.int p1), .val (.int p2), .val (.int p3), .val (.long vv), .second, .val (.int off), .val (.int sb), .val (.ref b5), .val (.int nn), .val (.int r91), .val (.int v99_0)] [(.int sb), (.long vv), (.int nn), (.int off), (.int (1 : Int32)), (.ref b5)])) rfl (by rw [hml]; rfl) (argsL := [(.ref b5), (.int (1 : Int32)), (.int off), (.int nn), (.long vv), (.int sb)]) (rest := []) (lenOf pd_2 rfl) rfl (by show 2 * 0 + _ ≤ _; exact Nat.le_of_eq rfl) (hb hby at_254) (fun _ _ => ⟨rfl, e99, (by decide : 1 + 0 ≤ _), (by decide : 16 + 0 ≤ _)⟩)
      dsimp only [Pt.U, Pt.locs, Pt.cells, Pt.slots] at X114 l114 y114 z114 st114 hQ114
      subst l114 y114 z114
      obtain ⟨rfl, N114, eh114⟩ := hQ114
      have N114' := Fr.app N99 N114
      obtain ⟨Lg114, Xg114, Ng114⟩ : ∃ Lg, Stand p l e room_1 s m #[(.long q0), (.int p1), (.int p2), (.int p3)] below meth c T114 Lg 1 16 ∧ Fr n0 Lg := ⟨_, X114, N114'⟩
      have K116 : Steps p.tables e below _ (T114.setTop (mkF m 257 #[.val (.long q0), .second, .val (.int p1), .val (.int p2), .val (.int p3), .val (.long vv), .second, .val (.int off), .val (.int sb), .val (.ref b5), .val (.int nn), .val (.int r91), .val (.int v99_0)] [(.int (f_rm3 (1 : Int32) off nn vv sb (own_by vsx (1 : Int32))))])) := K112.trans (st114 _ (Steps.refl _))
      obtain ⟨r115, hr115⟩ : ∃ z : Int32, (f_rm3 (1 : Int32) off nn vv sb (own_by vsx (1 : Int32))) = z := ⟨_, rfl⟩
      rw [hr115] at K116
      by_cases hc257 : r115 = (0 : Int32)
      · have K117 : Steps p.tables e below _ (T114.setTop (mkF m 265 #[.val (.long q0), .second, .val (.int p1), .val (.int p2), .val (.int p3), .val (.long vv), .second, .val (.int off), .val (.int sb), .val (.ref b5), .val (.int nn), .val (.int r91), .val (.int v99_0)] [(.int (0 : Int32))])) := K116.trans (by
          refine XS.ifYes Xg114.here hx rfl (pc0 := 257) (pc' := 264) rfl (hb hby at_257) rfl ((if0 _ _).trans (teq hc257).1) (by decide) (by decide) ?_
          refine XS.iconst Xg114.here hx rfl (hb hby at_264) ?_
          exact Steps.refl _)
        subst hr115
        exact ⟨T114, _, (0 : Int32), Xg114, eh114, Ng114, (by rw [if_neg hc240, if_pos hc257]), K117⟩
      · have K118 : Steps p.tables e below _ (T114.setTop (mkF m 265 #[.val (.long q0), .second, .val (.int p1), .val (.int p2), .val (.int p3), .val (.long vv), .second, .val (.int off), .val (.int sb), .val (.ref b5), .val (.int nn), .val (.int r91), .val (.int v99_0)] [(.int (1 : Int32))])) := K116.trans (by
          refine XS.ifNo Xg114.here hx rfl (hb hby at_257) rfl ((if0 _ _).trans (feq hc257).1) ?_
          refine XS.iconst Xg114.here hx rfl (hb hby at_260) ?_
          refine XS.goto Xg114.here hx rfl (pc0 := 261) (pc' := 265) rfl (hb hby at_261) (by decide) (by decide) ?_
          exact Steps.refl _)
        subst hr115
        exact ⟨T114, _, (1 : Int32), Xg114, eh114, Ng114, (by rw [if_neg hc240, if_neg hc257]), K118⟩
  have K119 := K109.trans S110
  have K120 : Steps p.tables e below _ (T110.setTop (mkF m 269 #[.val (.long q0), .second, .val (.int p1), .val (.int p2), .val (.int p3), .val (.long vv), .second, .val (.int off), .val (.int sb), .val (.ref b5), .val (.int nn), .val (.int r91), .val (.int v110_0)] [(.int v110_0)])) := K119.trans (by
    refine XS.istore X110.here hx rfl (hb hby at_265) rfl (l' := #[.val (.long q0), .second, .val (.int p1), .val (.int p2), .val (.int p3), .val (.long vv), .second, .val (.int off), .val (.int sb), .val (.ref b5), .val (.int nn), .val (.int r91), .val (.int v110_0)]) rfl ?_
    refine XS.iload X110.here hx rfl (hb hby at_267) rfl ?_
    exact Steps.refl _)
  obtain ⟨T121, L121, v121_0, X121, e121, N121, hv121_0, S121⟩ : ∃ (T121 : State) (L121 : List Loc) (v121_0 : Int32), Stand p l e room_1 s m #[(.long q0), (.int p1), (.int p2), (.int p3)] below meth c T121 L121 1 16 ∧ T121.heap = T90.heap ∧ Fr n0 L121 ∧ (if v110_0 = (0 : Int32) then (0 : Int32) else (if (f_rm3 (2 : Int32) off nn vv sb (own_by vsx (2 : Int32))) = (0 : Int32) then (0 : Int32) else (1 : Int32))) = v121_0 ∧ Steps p.tables e below (T110.setTop (mkF m 269 #[.val (.long q0), .second, .val (.int p1), .val (.int p2), .val (.int p3), .val (.long vv), .second, .val (.int off), .val (.int sb), .val (.ref b5), .val (.int nn), .val (.int r91), .val (.int v110_0)] [(.int v110_0)])) (T121.setTop (mkF m 294 #[.val (.long q0), .second, .val (.int p1), .val (.int p2), .val (.int p3), .val (.long vv), .second, .val (.int off), .val (.int sb), .val (.ref b5), .val (.int nn), .val (.int r91), .val (.int v110_0)] [(.int v121_0)])) := by
    have R121 := Steps.refl (tb := p.tables) (e := e) (below := below) (T110.setTop (mkF m 269 #[.val (.long q0), .second, .val (.int p1), .val (.int p2), .val (.int p3), .val (.long vv), .second, .val (.int off), .val (.int sb), .val (.ref b5), .val (.int nn), .val (.int r91), .val (.int v110_0)] [(.int v110_0)]))
    by_cases hc269 : v110_0 = (0 : Int32)
    · have K122 : Steps p.tables e below _ (T110.setTop (mkF m 294 #[.val (.long q0), .second, .val (.int p1), .val (.int p2), .val (.int p3), .val (.long vv), .second, .val (.int off), .val (.int sb), .val (.ref b5), .val (.int nn), .val (.int r91), .val (.int v110_0)] [(.int (0 : Int32))])) := R121.trans (by
        refine XS.ifYes X110.here hx rfl (pc0 := 269) (pc' := 293) rfl (hb hby at_269) rfl ((if0 _ _).trans (teq hc269).1) (by decide) (by decide) ?_
        refine XS.iconst X110.here hx rfl (hb hby at_293) ?_
        exact Steps.refl _)
      exact ⟨T110, _, (0 : Int32), X110, e110, N110, (by rw [if_pos hc269]), K122⟩
    · have K123 : Steps p.tables e below _ (T110.setTop (mkF m 283 #[.val (.long q0), .second, .val (.int p1), .val (.int p2), .val (.int p3), .val (.long vv), .second, .val (.int off), .val (.int sb), .val (.ref b5), .val (.int nn), .val (.int r91), .val (.int v110_0)] [(.int sb), (.long vv), (.int nn), (.int off), (.int (2 : Int32)), (.ref b5)])) := R121.trans (by
        refine XS.ifNo X110.here hx rfl (hb hby at_269) rfl ((if0 _ _).trans (feq hc269).1) ?_
        refine XS.aload X110.here hx rfl (hb hby at_272) rfl rfl ?_
        refine XS.iconst X110.here hx rfl (hb hby at_274) ?_
        refine XS.iload X110.here hx rfl (hb hby at_275) rfl ?_
        refine XS.iload X110.here hx rfl (hb hby at_277) rfl ?_
        show Steps p.tables e below (T110.setTop (mkF m 279 #[.val (.long q0), .second, .val (.int p1), .val (.int p2), .val (.int p3), .val (.long vv), .second, .val (.int off), .val (.int sb), .val (.ref b5), .val (.int nn), .val (.int r91), .val (.int v110_0)] [(.int nn), (.int off), (.int (2 : Int32)), (.ref b5)])) _
        refine XS.lload X110.here hx rfl (hb hby at_279) rfl ?_
        refine XS.iload X110.here hx rfl (hb hby at_281) rfl ?_
        exact Steps.refl _)
      have Z_124 : n0 ≤ T90.heap.size := (Nat.le_trans Z_56 Kp90.1)
      obtain ⟨_, _, ⟨T125, L125, k125, n125⟩, -, X125, ⟨Lc125, hQ125, l125, y125, z125⟩, st125⟩ := Jvm.LawKit.callS X110 hx (y := (⟨"com/example/windward/windward/storage/VarIntsWritePinLaw", "at", "([BIIIJB)Z"⟩ : MethodName)) hown (mvT hZ (hw _ (List.mem_of_getElem? (i := 11) rfl))) (mvT hZ (hw _ (List.mem_of_getElem? (i := 12) rfl))) (mvT hZ (hw _ (List.mem_of_getElem? (i := 4) rfl))) (mvT hZ (hw _ (List.mem_of_getElem? (i := 13) rfl))) (by decide) (backOf (W := 0) (rm3 l Z a0 hw [] b5 (2 : Int32) off nn vv sb k5 vsx (own_by vsx (2 : Int32)) T90.heap n0 Z_124 Q90_0 (by decide) (hai _)) hZ (hw _ (List.mem_of_getElem? (i := 13) rfl)) (hw _ (List.mem_of_getElem? (i := 4) rfl)) (by decide) (by decide)) (g := (mkF m 283 #[.val (.long q0), .second, .val (.int p1), .val (.int p2), .val (.int p3), .val (.long vv), .second, .val (.int off), .val (.int sb), .val (.ref b5), .val (.int nn), .val (.int r91), .val (.int v110_0)] [(.int sb), (.long vv), (.int nn), (.int off), (.int (2 : Int32)), (.ref b5)])) rfl (by rw [hml]; rfl) (argsL := [(.ref b5), (.int (2 : Int32)), (.int off), (.int nn), (.long vv), (.int sb)]) (rest := []) (lenOf pd_2 rfl) rfl (by show 2 * 0 + _ ≤ _; exact Nat.le_of_eq rfl) (hb hby at_283) (fun _ _ => ⟨rfl, e110, (by decide : 1 + 0 ≤ _), (by decide : 16 + 0 ≤ _)⟩)
      dsimp only [Pt.U, Pt.locs, Pt.cells, Pt.slots] at X125 l125 y125 z125 st125 hQ125
      subst l125 y125 z125
      obtain ⟨rfl, N125, eh125⟩ := hQ125
      have N125' := Fr.app N110 N125
      obtain ⟨Lg125, Xg125, Ng125⟩ : ∃ Lg, Stand p l e room_1 s m #[(.long q0), (.int p1), (.int p2), (.int p3)] below meth c T125 Lg 1 16 ∧ Fr n0 Lg := ⟨_, X125, N125'⟩
      have K127 : Steps p.tables e below _ (T125.setTop (mkF m 286 #[.val (.long q0), .second, .val (.int p1), .val (.int p2), .val (.int p3), .val (.long vv), .second, .val (.int off), .val (.int sb), .val (.ref b5), .val (.int nn), .val (.int r91), .val (.int v110_0)] [(.int (f_rm3 (2 : Int32) off nn vv sb (own_by vsx (2 : Int32))))])) := K123.trans (st125 _ (Steps.refl _))
      obtain ⟨r126, hr126⟩ : ∃ z : Int32, (f_rm3 (2 : Int32) off nn vv sb (own_by vsx (2 : Int32))) = z := ⟨_, rfl⟩
      rw [hr126] at K127
      by_cases hc286 : r126 = (0 : Int32)
      · have K128 : Steps p.tables e below _ (T125.setTop (mkF m 294 #[.val (.long q0), .second, .val (.int p1), .val (.int p2), .val (.int p3), .val (.long vv), .second, .val (.int off), .val (.int sb), .val (.ref b5), .val (.int nn), .val (.int r91), .val (.int v110_0)] [(.int (0 : Int32))])) := K127.trans (by
          refine XS.ifYes Xg125.here hx rfl (pc0 := 286) (pc' := 293) rfl (hb hby at_286) rfl ((if0 _ _).trans (teq hc286).1) (by decide) (by decide) ?_
          refine XS.iconst Xg125.here hx rfl (hb hby at_293) ?_
          exact Steps.refl _)
        subst hr126
        exact ⟨T125, _, (0 : Int32), Xg125, eh125, Ng125, (by rw [if_neg hc269, if_pos hc286]), K128⟩
      · have K129 : Steps p.tables e below _ (T125.setTop (mkF m 294 #[.val (.long q0), .second, .val (.int p1), .val (.int p2), .val (.int p3), .val (.long vv), .second, .val (.int off), .val (.int sb), .val (.ref b5), .val (.int nn), .val (.int r91), .val (.int v110_0)] [(.int (1 : Int32))])) := K127.trans (by
          refine XS.ifNo Xg125.here hx rfl (hb hby at_286) rfl ((if0 _ _).trans (feq hc286).1) ?_
          refine XS.iconst Xg125.here hx rfl (hb hby at_289) ?_
          refine XS.goto Xg125.here hx rfl (pc0 := 290) (pc' := 294) rfl (hb hby at_290) (by decide) (by decide) ?_
          exact Steps.refl _)
        subst hr126
        exact ⟨T125, _, (1 : Int32), Xg125, eh125, Ng125, (by rw [if_neg hc269, if_neg hc286]), K129⟩
  have K130 := K120.trans S121
  have K131 : Steps p.tables e below _ (T121.setTop (mkF m 298 #[.val (.long q0), .second, .val (.int p1), .val (.int p2), .val (.int p3), .val (.long vv), .second, .val (.int off), .val (.int sb), .val (.ref b5), .val (.int nn), .val (.int r91), .val (.int v121_0)] [(.int v121_0)])) := K130.trans (by
    refine XS.istore X121.here hx rfl (hb hby at_294) rfl (l' := #[.val (.long q0), .second, .val (.int p1), .val (.int p2), .val (.int p3), .val (.long vv), .second, .val (.int off), .val (.int sb), .val (.ref b5), .val (.int nn), .val (.int r91), .val (.int v121_0)]) rfl ?_
    refine XS.iload X121.here hx rfl (hb hby at_296) rfl ?_
    exact Steps.refl _)
  obtain ⟨T132, L132, v132_0, X132, e132, N132, hv132_0, S132⟩ : ∃ (T132 : State) (L132 : List Loc) (v132_0 : Int32), Stand p l e room_1 s m #[(.long q0), (.int p1), (.int p2), (.int p3)] below meth c T132 L132 1 16 ∧ T132.heap = T90.heap ∧ Fr n0 L132 ∧ (if v121_0 = (0 : Int32) then (0 : Int32) else (if (f_rm3 (3 : Int32) off nn vv sb (own_by vsx (3 : Int32))) = (0 : Int32) then (0 : Int32) else (1 : Int32))) = v132_0 ∧ Steps p.tables e below (T121.setTop (mkF m 298 #[.val (.long q0), .second, .val (.int p1), .val (.int p2), .val (.int p3), .val (.long vv), .second, .val (.int off), .val (.int sb), .val (.ref b5), .val (.int nn), .val (.int r91), .val (.int v121_0)] [(.int v121_0)])) (T132.setTop (mkF m 323 #[.val (.long q0), .second, .val (.int p1), .val (.int p2), .val (.int p3), .val (.long vv), .second, .val (.int off), .val (.int sb), .val (.ref b5), .val (.int nn), .val (.int r91), .val (.int v121_0)] [(.int v132_0)])) := by
    have R132 := Steps.refl (tb := p.tables) (e := e) (below := below) (T121.setTop (mkF m 298 #[.val (.long q0), .second, .val (.int p1), .val (.int p2), .val (.int p3), .val (.long vv), .second, .val (.int off), .val (.int sb), .val (.ref b5), .val (.int nn), .val (.int r91), .val (.int v121_0)] [(.int v121_0)]))
    by_cases hc298 : v121_0 = (0 : Int32)
    · have K133 : Steps p.tables e below _ (T121.setTop (mkF m 323 #[.val (.long q0), .second, .val (.int p1), .val (.int p2), .val (.int p3), .val (.long vv), .second, .val (.int off), .val (.int sb), .val (.ref b5), .val (.int nn), .val (.int r91), .val (.int v121_0)] [(.int (0 : Int32))])) := R132.trans (by
        refine XS.ifYes X121.here hx rfl (pc0 := 298) (pc' := 322) rfl (hb hby at_298) rfl ((if0 _ _).trans (teq hc298).1) (by decide) (by decide) ?_
        refine XS.iconst X121.here hx rfl (hb hby at_322) ?_
        exact Steps.refl _)
      exact ⟨T121, _, (0 : Int32), X121, e121, N121, (by rw [if_pos hc298]), K133⟩
    · have K134 : Steps p.tables e below _ (T121.setTop (mkF m 312 #[.val (.long q0), .second, .val (.int p1), .val (.int p2), .val (.int p3), .val (.long vv), .second, .val (.int off), .val (.int sb), .val (.ref b5), .val (.int nn), .val (.int r91), .val (.int v121_0)] [(.int sb), (.long vv), (.int nn), (.int off), (.int (3 : Int32)), (.ref b5)])) := R132.trans (by
        refine XS.ifNo X121.here hx rfl (hb hby at_298) rfl ((if0 _ _).trans (feq hc298).1) ?_
        refine XS.aload X121.here hx rfl (hb hby at_301) rfl rfl ?_
        refine XS.iconst X121.here hx rfl (hb hby at_303) ?_
        refine XS.iload X121.here hx rfl (hb hby at_304) rfl ?_
        refine XS.iload X121.here hx rfl (hb hby at_306) rfl ?_
        show Steps p.tables e below (T121.setTop (mkF m 308 #[.val (.long q0), .second, .val (.int p1), .val (.int p2), .val (.int p3), .val (.long vv), .second, .val (.int off), .val (.int sb), .val (.ref b5), .val (.int nn), .val (.int r91), .val (.int v121_0)] [(.int nn), (.int off), (.int (3 : Int32)), (.ref b5)])) _
        refine XS.lload X121.here hx rfl (hb hby at_308) rfl ?_
        refine XS.iload X121.here hx rfl (hb hby at_310) rfl ?_
        exact Steps.refl _)
      have Z_135 : n0 ≤ T90.heap.size := (Nat.le_trans Z_56 Kp90.1)
      obtain ⟨_, _, ⟨T136, L136, k136, n136⟩, -, X136, ⟨Lc136, hQ136, l136, y136, z136⟩, st136⟩ := Jvm.LawKit.callS X121 hx (y := (⟨"com/example/windward/windward/storage/VarIntsWritePinLaw", "at", "([BIIIJB)Z"⟩ : MethodName)) hown (mvT hZ (hw _ (List.mem_of_getElem? (i := 11) rfl))) (mvT hZ (hw _ (List.mem_of_getElem? (i := 12) rfl))) (mvT hZ (hw _ (List.mem_of_getElem? (i := 4) rfl))) (mvT hZ (hw _ (List.mem_of_getElem? (i := 13) rfl))) (by decide) (backOf (W := 0) (rm3 l Z a0 hw [] b5 (3 : Int32) off nn vv sb k5 vsx (own_by vsx (3 : Int32)) T90.heap n0 Z_135 Q90_0 (by decide) (hai _)) hZ (hw _ (List.mem_of_getElem? (i := 13) rfl)) (hw _ (List.mem_of_getElem? (i := 4) rfl)) (by decide) (by decide)) (g := (mkF m 312 #[.val (.long q0), .second, .val (.int p1), .val (.int p2), .val (.int p3), .val (.long vv), .second, .val (.int off), .val (.int sb), .val (.ref b5), .val (.int nn), .val (.int r91), .val (.int v121_0)] [(.int sb), (.long vv), (.int nn), (.int off), (.int (3 : Int32)), (.ref b5)])) rfl (by rw [hml]; rfl) (argsL := [(.ref b5), (.int (3 : Int32)), (.int off), (.int nn), (.long vv), (.int sb)]) (rest := []) (lenOf pd_2 rfl) rfl (by show 2 * 0 + _ ≤ _; exact Nat.le_of_eq rfl) (hb hby at_312) (fun _ _ => ⟨rfl, e121, (by decide : 1 + 0 ≤ _), (by decide : 16 + 0 ≤ _)⟩)
      dsimp only [Pt.U, Pt.locs, Pt.cells, Pt.slots] at X136 l136 y136 z136 st136 hQ136
      subst l136 y136 z136
      obtain ⟨rfl, N136, eh136⟩ := hQ136
      have N136' := Fr.app N121 N136
      obtain ⟨Lg136, Xg136, Ng136⟩ : ∃ Lg, Stand p l e room_1 s m #[(.long q0), (.int p1), (.int p2), (.int p3)] below meth c T136 Lg 1 16 ∧ Fr n0 Lg := ⟨_, X136, N136'⟩
      have K138 : Steps p.tables e below _ (T136.setTop (mkF m 315 #[.val (.long q0), .second, .val (.int p1), .val (.int p2), .val (.int p3), .val (.long vv), .second, .val (.int off), .val (.int sb), .val (.ref b5), .val (.int nn), .val (.int r91), .val (.int v121_0)] [(.int (f_rm3 (3 : Int32) off nn vv sb (own_by vsx (3 : Int32))))])) := K134.trans (st136 _ (Steps.refl _))
      obtain ⟨r137, hr137⟩ : ∃ z : Int32, (f_rm3 (3 : Int32) off nn vv sb (own_by vsx (3 : Int32))) = z := ⟨_, rfl⟩
      rw [hr137] at K138
      by_cases hc315 : r137 = (0 : Int32)
      · have K139 : Steps p.tables e below _ (T136.setTop (mkF m 323 #[.val (.long q0), .second, .val (.int p1), .val (.int p2), .val (.int p3), .val (.long vv), .second, .val (.int off), .val (.int sb), .val (.ref b5), .val (.int nn), .val (.int r91), .val (.int v121_0)] [(.int (0 : Int32))])) := K138.trans (by
          refine XS.ifYes Xg136.here hx rfl (pc0 := 315) (pc' := 322) rfl (hb hby at_315) rfl ((if0 _ _).trans (teq hc315).1) (by decide) (by decide) ?_
          refine XS.iconst Xg136.here hx rfl (hb hby at_322) ?_
          exact Steps.refl _)
        subst hr137
        exact ⟨T136, _, (0 : Int32), Xg136, eh136, Ng136, (by rw [if_neg hc298, if_pos hc315]), K139⟩
      · have K140 : Steps p.tables e below _ (T136.setTop (mkF m 323 #[.val (.long q0), .second, .val (.int p1), .val (.int p2), .val (.int p3), .val (.long vv), .second, .val (.int off), .val (.int sb), .val (.ref b5), .val (.int nn), .val (.int r91), .val (.int v121_0)] [(.int (1 : Int32))])) := K138.trans (by
          refine XS.ifNo Xg136.here hx rfl (hb hby at_315) rfl ((if0 _ _).trans (feq hc315).1) ?_
          refine XS.iconst Xg136.here hx rfl (hb hby at_318) ?_
          refine XS.goto Xg136.here hx rfl (pc0 := 319) (pc' := 323) rfl (hb hby at_319) (by decide) (by decide) ?_
          exact Steps.refl _)
        subst hr137
        exact ⟨T136, _, (1 : Int32), Xg136, eh136, Ng136, (by rw [if_neg hc298, if_neg hc315]), K140⟩
  have K141 := K131.trans S132
  have K142 : Steps p.tables e below _ (T132.setTop (mkF m 327 #[.val (.long q0), .second, .val (.int p1), .val (.int p2), .val (.int p3), .val (.long vv), .second, .val (.int off), .val (.int sb), .val (.ref b5), .val (.int nn), .val (.int r91), .val (.int v132_0)] [(.int v132_0)])) := K141.trans (by
    refine XS.istore X132.here hx rfl (hb hby at_323) rfl (l' := #[.val (.long q0), .second, .val (.int p1), .val (.int p2), .val (.int p3), .val (.long vv), .second, .val (.int off), .val (.int sb), .val (.ref b5), .val (.int nn), .val (.int r91), .val (.int v132_0)]) rfl ?_
    refine XS.iload X132.here hx rfl (hb hby at_325) rfl ?_
    exact Steps.refl _)
  obtain ⟨T143, L143, v143_0, X143, e143, N143, hv143_0, S143⟩ : ∃ (T143 : State) (L143 : List Loc) (v143_0 : Int32), Stand p l e room_1 s m #[(.long q0), (.int p1), (.int p2), (.int p3)] below meth c T143 L143 1 16 ∧ T143.heap = T90.heap ∧ Fr n0 L143 ∧ (if v132_0 = (0 : Int32) then (0 : Int32) else (if (f_rm3 (4 : Int32) off nn vv sb (own_by vsx (4 : Int32))) = (0 : Int32) then (0 : Int32) else (1 : Int32))) = v143_0 ∧ Steps p.tables e below (T132.setTop (mkF m 327 #[.val (.long q0), .second, .val (.int p1), .val (.int p2), .val (.int p3), .val (.long vv), .second, .val (.int off), .val (.int sb), .val (.ref b5), .val (.int nn), .val (.int r91), .val (.int v132_0)] [(.int v132_0)])) (T143.setTop (mkF m 352 #[.val (.long q0), .second, .val (.int p1), .val (.int p2), .val (.int p3), .val (.long vv), .second, .val (.int off), .val (.int sb), .val (.ref b5), .val (.int nn), .val (.int r91), .val (.int v132_0)] [(.int v143_0)])) := by
    have R143 := Steps.refl (tb := p.tables) (e := e) (below := below) (T132.setTop (mkF m 327 #[.val (.long q0), .second, .val (.int p1), .val (.int p2), .val (.int p3), .val (.long vv), .second, .val (.int off), .val (.int sb), .val (.ref b5), .val (.int nn), .val (.int r91), .val (.int v132_0)] [(.int v132_0)]))
    by_cases hc327 : v132_0 = (0 : Int32)
    · have K144 : Steps p.tables e below _ (T132.setTop (mkF m 352 #[.val (.long q0), .second, .val (.int p1), .val (.int p2), .val (.int p3), .val (.long vv), .second, .val (.int off), .val (.int sb), .val (.ref b5), .val (.int nn), .val (.int r91), .val (.int v132_0)] [(.int (0 : Int32))])) := R143.trans (by
        refine XS.ifYes X132.here hx rfl (pc0 := 327) (pc' := 351) rfl (hb hby at_327) rfl ((if0 _ _).trans (teq hc327).1) (by decide) (by decide) ?_
        refine XS.iconst X132.here hx rfl (hb hby at_351) ?_
        exact Steps.refl _)
      exact ⟨T132, _, (0 : Int32), X132, e132, N132, (by rw [if_pos hc327]), K144⟩
    · have K145 : Steps p.tables e below _ (T132.setTop (mkF m 341 #[.val (.long q0), .second, .val (.int p1), .val (.int p2), .val (.int p3), .val (.long vv), .second, .val (.int off), .val (.int sb), .val (.ref b5), .val (.int nn), .val (.int r91), .val (.int v132_0)] [(.int sb), (.long vv), (.int nn), (.int off), (.int (4 : Int32)), (.ref b5)])) := R143.trans (by
        refine XS.ifNo X132.here hx rfl (hb hby at_327) rfl ((if0 _ _).trans (feq hc327).1) ?_
        refine XS.aload X132.here hx rfl (hb hby at_330) rfl rfl ?_
        refine XS.iconst X132.here hx rfl (hb hby at_332) ?_
        refine XS.iload X132.here hx rfl (hb hby at_333) rfl ?_
        refine XS.iload X132.here hx rfl (hb hby at_335) rfl ?_
        show Steps p.tables e below (T132.setTop (mkF m 337 #[.val (.long q0), .second, .val (.int p1), .val (.int p2), .val (.int p3), .val (.long vv), .second, .val (.int off), .val (.int sb), .val (.ref b5), .val (.int nn), .val (.int r91), .val (.int v132_0)] [(.int nn), (.int off), (.int (4 : Int32)), (.ref b5)])) _
        refine XS.lload X132.here hx rfl (hb hby at_337) rfl ?_
        refine XS.iload X132.here hx rfl (hb hby at_339) rfl ?_
        exact Steps.refl _)
      have Z_146 : n0 ≤ T90.heap.size := (Nat.le_trans Z_56 Kp90.1)
      obtain ⟨_, _, ⟨T147, L147, k147, n147⟩, -, X147, ⟨Lc147, hQ147, l147, y147, z147⟩, st147⟩ := Jvm.LawKit.callS X132 hx (y := (⟨"com/example/windward/windward/storage/VarIntsWritePinLaw", "at", "([BIIIJB)Z"⟩ : MethodName)) hown (mvT hZ (hw _ (List.mem_of_getElem? (i := 11) rfl))) (mvT hZ (hw _ (List.mem_of_getElem? (i := 12) rfl))) (mvT hZ (hw _ (List.mem_of_getElem? (i := 4) rfl))) (mvT hZ (hw _ (List.mem_of_getElem? (i := 13) rfl))) (by decide) (backOf (W := 0) (rm3 l Z a0 hw [] b5 (4 : Int32) off nn vv sb k5 vsx (own_by vsx (4 : Int32)) T90.heap n0 Z_146 Q90_0 (by decide) (hai _)) hZ (hw _ (List.mem_of_getElem? (i := 13) rfl)) (hw _ (List.mem_of_getElem? (i := 4) rfl)) (by decide) (by decide)) (g := (mkF m 341 #[.val (.long q0), .second, .val (.int p1), .val (.int p2), .val (.int p3), .val (.long vv), .second, .val (.int off), .val (.int sb), .val (.ref b5), .val (.int nn), .val (.int r91), .val (.int v132_0)] [(.int sb), (.long vv), (.int nn), (.int off), (.int (4 : Int32)), (.ref b5)])) rfl (by rw [hml]; rfl) (argsL := [(.ref b5), (.int (4 : Int32)), (.int off), (.int nn), (.long vv), (.int sb)]) (rest := []) (lenOf pd_2 rfl) rfl (by show 2 * 0 + _ ≤ _; exact Nat.le_of_eq rfl) (hb hby at_341) (fun _ _ => ⟨rfl, e132, (by decide : 1 + 0 ≤ _), (by decide : 16 + 0 ≤ _)⟩)
      dsimp only [Pt.U, Pt.locs, Pt.cells, Pt.slots] at X147 l147 y147 z147 st147 hQ147
      subst l147 y147 z147
      obtain ⟨rfl, N147, eh147⟩ := hQ147
      have N147' := Fr.app N132 N147
      obtain ⟨Lg147, Xg147, Ng147⟩ : ∃ Lg, Stand p l e room_1 s m #[(.long q0), (.int p1), (.int p2), (.int p3)] below meth c T147 Lg 1 16 ∧ Fr n0 Lg := ⟨_, X147, N147'⟩
      have K149 : Steps p.tables e below _ (T147.setTop (mkF m 344 #[.val (.long q0), .second, .val (.int p1), .val (.int p2), .val (.int p3), .val (.long vv), .second, .val (.int off), .val (.int sb), .val (.ref b5), .val (.int nn), .val (.int r91), .val (.int v132_0)] [(.int (f_rm3 (4 : Int32) off nn vv sb (own_by vsx (4 : Int32))))])) := K145.trans (st147 _ (Steps.refl _))
      obtain ⟨r148, hr148⟩ : ∃ z : Int32, (f_rm3 (4 : Int32) off nn vv sb (own_by vsx (4 : Int32))) = z := ⟨_, rfl⟩
      rw [hr148] at K149
      by_cases hc344 : r148 = (0 : Int32)
      · have K150 : Steps p.tables e below _ (T147.setTop (mkF m 352 #[.val (.long q0), .second, .val (.int p1), .val (.int p2), .val (.int p3), .val (.long vv), .second, .val (.int off), .val (.int sb), .val (.ref b5), .val (.int nn), .val (.int r91), .val (.int v132_0)] [(.int (0 : Int32))])) := K149.trans (by
          refine XS.ifYes Xg147.here hx rfl (pc0 := 344) (pc' := 351) rfl (hb hby at_344) rfl ((if0 _ _).trans (teq hc344).1) (by decide) (by decide) ?_
          refine XS.iconst Xg147.here hx rfl (hb hby at_351) ?_
          exact Steps.refl _)
        subst hr148
        exact ⟨T147, _, (0 : Int32), Xg147, eh147, Ng147, (by rw [if_neg hc327, if_pos hc344]), K150⟩
      · have K151 : Steps p.tables e below _ (T147.setTop (mkF m 352 #[.val (.long q0), .second, .val (.int p1), .val (.int p2), .val (.int p3), .val (.long vv), .second, .val (.int off), .val (.int sb), .val (.ref b5), .val (.int nn), .val (.int r91), .val (.int v132_0)] [(.int (1 : Int32))])) := K149.trans (by
          refine XS.ifNo Xg147.here hx rfl (hb hby at_344) rfl ((if0 _ _).trans (feq hc344).1) ?_
          refine XS.iconst Xg147.here hx rfl (hb hby at_347) ?_
          refine XS.goto Xg147.here hx rfl (pc0 := 348) (pc' := 352) rfl (hb hby at_348) (by decide) (by decide) ?_
          exact Steps.refl _)
        subst hr148
        exact ⟨T147, _, (1 : Int32), Xg147, eh147, Ng147, (by rw [if_neg hc327, if_neg hc344]), K151⟩
  have K152 := K142.trans S143
  have K153 : Steps p.tables e below _ (T143.setTop (mkF m 356 #[.val (.long q0), .second, .val (.int p1), .val (.int p2), .val (.int p3), .val (.long vv), .second, .val (.int off), .val (.int sb), .val (.ref b5), .val (.int nn), .val (.int r91), .val (.int v143_0)] [(.int v143_0)])) := K152.trans (by
    refine XS.istore X143.here hx rfl (hb hby at_352) rfl (l' := #[.val (.long q0), .second, .val (.int p1), .val (.int p2), .val (.int p3), .val (.long vv), .second, .val (.int off), .val (.int sb), .val (.ref b5), .val (.int nn), .val (.int r91), .val (.int v143_0)]) rfl ?_
    refine XS.iload X143.here hx rfl (hb hby at_354) rfl ?_
    exact Steps.refl _)
  obtain ⟨T154, L154, v154_0, X154, e154, N154, hv154_0, S154⟩ : ∃ (T154 : State) (L154 : List Loc) (v154_0 : Int32), Stand p l e room_1 s m #[(.long q0), (.int p1), (.int p2), (.int p3)] below meth c T154 L154 1 16 ∧ T154.heap = T90.heap ∧ Fr n0 L154 ∧ (if v143_0 = (0 : Int32) then (0 : Int32) else (if (f_rm3 (5 : Int32) off nn vv sb (own_by vsx (5 : Int32))) = (0 : Int32) then (0 : Int32) else (1 : Int32))) = v154_0 ∧ Steps p.tables e below (T143.setTop (mkF m 356 #[.val (.long q0), .second, .val (.int p1), .val (.int p2), .val (.int p3), .val (.long vv), .second, .val (.int off), .val (.int sb), .val (.ref b5), .val (.int nn), .val (.int r91), .val (.int v143_0)] [(.int v143_0)])) (T154.setTop (mkF m 381 #[.val (.long q0), .second, .val (.int p1), .val (.int p2), .val (.int p3), .val (.long vv), .second, .val (.int off), .val (.int sb), .val (.ref b5), .val (.int nn), .val (.int r91), .val (.int v143_0)] [(.int v154_0)])) := by
    have R154 := Steps.refl (tb := p.tables) (e := e) (below := below) (T143.setTop (mkF m 356 #[.val (.long q0), .second, .val (.int p1), .val (.int p2), .val (.int p3), .val (.long vv), .second, .val (.int off), .val (.int sb), .val (.ref b5), .val (.int nn), .val (.int r91), .val (.int v143_0)] [(.int v143_0)]))
    by_cases hc356 : v143_0 = (0 : Int32)
    · have K155 : Steps p.tables e below _ (T143.setTop (mkF m 381 #[.val (.long q0), .second, .val (.int p1), .val (.int p2), .val (.int p3), .val (.long vv), .second, .val (.int off), .val (.int sb), .val (.ref b5), .val (.int nn), .val (.int r91), .val (.int v143_0)] [(.int (0 : Int32))])) := R154.trans (by
        refine XS.ifYes X143.here hx rfl (pc0 := 356) (pc' := 380) rfl (hb hby at_356) rfl ((if0 _ _).trans (teq hc356).1) (by decide) (by decide) ?_
        refine XS.iconst X143.here hx rfl (hb hby at_380) ?_
        exact Steps.refl _)
      exact ⟨T143, _, (0 : Int32), X143, e143, N143, (by rw [if_pos hc356]), K155⟩
    · have K156 : Steps p.tables e below _ (T143.setTop (mkF m 370 #[.val (.long q0), .second, .val (.int p1), .val (.int p2), .val (.int p3), .val (.long vv), .second, .val (.int off), .val (.int sb), .val (.ref b5), .val (.int nn), .val (.int r91), .val (.int v143_0)] [(.int sb), (.long vv), (.int nn), (.int off), (.int (5 : Int32)), (.ref b5)])) := R154.trans (by
        refine XS.ifNo X143.here hx rfl (hb hby at_356) rfl ((if0 _ _).trans (feq hc356).1) ?_
        refine XS.aload X143.here hx rfl (hb hby at_359) rfl rfl ?_
        refine XS.iconst X143.here hx rfl (hb hby at_361) ?_
        refine XS.iload X143.here hx rfl (hb hby at_362) rfl ?_
        refine XS.iload X143.here hx rfl (hb hby at_364) rfl ?_
        show Steps p.tables e below (T143.setTop (mkF m 366 #[.val (.long q0), .second, .val (.int p1), .val (.int p2), .val (.int p3), .val (.long vv), .second, .val (.int off), .val (.int sb), .val (.ref b5), .val (.int nn), .val (.int r91), .val (.int v143_0)] [(.int nn), (.int off), (.int (5 : Int32)), (.ref b5)])) _
        refine XS.lload X143.here hx rfl (hb hby at_366) rfl ?_
        refine XS.iload X143.here hx rfl (hb hby at_368) rfl ?_
        exact Steps.refl _)
      have Z_157 : n0 ≤ T90.heap.size := (Nat.le_trans Z_56 Kp90.1)
      obtain ⟨_, _, ⟨T158, L158, k158, n158⟩, -, X158, ⟨Lc158, hQ158, l158, y158, z158⟩, st158⟩ := Jvm.LawKit.callS X143 hx (y := (⟨"com/example/windward/windward/storage/VarIntsWritePinLaw", "at", "([BIIIJB)Z"⟩ : MethodName)) hown (mvT hZ (hw _ (List.mem_of_getElem? (i := 11) rfl))) (mvT hZ (hw _ (List.mem_of_getElem? (i := 12) rfl))) (mvT hZ (hw _ (List.mem_of_getElem? (i := 4) rfl))) (mvT hZ (hw _ (List.mem_of_getElem? (i := 13) rfl))) (by decide) (backOf (W := 0) (rm3 l Z a0 hw [] b5 (5 : Int32) off nn vv sb k5 vsx (own_by vsx (5 : Int32)) T90.heap n0 Z_157 Q90_0 (by decide) (hai _)) hZ (hw _ (List.mem_of_getElem? (i := 13) rfl)) (hw _ (List.mem_of_getElem? (i := 4) rfl)) (by decide) (by decide)) (g := (mkF m 370 #[.val (.long q0), .second, .val (.int p1), .val (.int p2), .val (.int p3), .val (.long vv), .second, .val (.int off), .val (.int sb), .val (.ref b5), .val (.int nn), .val (.int r91), .val (.int v143_0)] [(.int sb), (.long vv), (.int nn), (.int off), (.int (5 : Int32)), (.ref b5)])) rfl (by rw [hml]; rfl) (argsL := [(.ref b5), (.int (5 : Int32)), (.int off), (.int nn), (.long vv), (.int sb)]) (rest := []) (lenOf pd_2 rfl) rfl (by show 2 * 0 + _ ≤ _; exact Nat.le_of_eq rfl) (hb hby at_370) (fun _ _ => ⟨rfl, e143, (by decide : 1 + 0 ≤ _), (by decide : 16 + 0 ≤ _)⟩)
      dsimp only [Pt.U, Pt.locs, Pt.cells, Pt.slots] at X158 l158 y158 z158 st158 hQ158
      subst l158 y158 z158
      obtain ⟨rfl, N158, eh158⟩ := hQ158
      have N158' := Fr.app N143 N158
      obtain ⟨Lg158, Xg158, Ng158⟩ : ∃ Lg, Stand p l e room_1 s m #[(.long q0), (.int p1), (.int p2), (.int p3)] below meth c T158 Lg 1 16 ∧ Fr n0 Lg := ⟨_, X158, N158'⟩
      have K160 : Steps p.tables e below _ (T158.setTop (mkF m 373 #[.val (.long q0), .second, .val (.int p1), .val (.int p2), .val (.int p3), .val (.long vv), .second, .val (.int off), .val (.int sb), .val (.ref b5), .val (.int nn), .val (.int r91), .val (.int v143_0)] [(.int (f_rm3 (5 : Int32) off nn vv sb (own_by vsx (5 : Int32))))])) := K156.trans (st158 _ (Steps.refl _))
      obtain ⟨r159, hr159⟩ : ∃ z : Int32, (f_rm3 (5 : Int32) off nn vv sb (own_by vsx (5 : Int32))) = z := ⟨_, rfl⟩
      rw [hr159] at K160
      by_cases hc373 : r159 = (0 : Int32)
      · have K161 : Steps p.tables e below _ (T158.setTop (mkF m 381 #[.val (.long q0), .second, .val (.int p1), .val (.int p2), .val (.int p3), .val (.long vv), .second, .val (.int off), .val (.int sb), .val (.ref b5), .val (.int nn), .val (.int r91), .val (.int v143_0)] [(.int (0 : Int32))])) := K160.trans (by
          refine XS.ifYes Xg158.here hx rfl (pc0 := 373) (pc' := 380) rfl (hb hby at_373) rfl ((if0 _ _).trans (teq hc373).1) (by decide) (by decide) ?_
          refine XS.iconst Xg158.here hx rfl (hb hby at_380) ?_
          exact Steps.refl _)
        subst hr159
        exact ⟨T158, _, (0 : Int32), Xg158, eh158, Ng158, (by rw [if_neg hc356, if_pos hc373]), K161⟩
      · have K162 : Steps p.tables e below _ (T158.setTop (mkF m 381 #[.val (.long q0), .second, .val (.int p1), .val (.int p2), .val (.int p3), .val (.long vv), .second, .val (.int off), .val (.int sb), .val (.ref b5), .val (.int nn), .val (.int r91), .val (.int v143_0)] [(.int (1 : Int32))])) := K160.trans (by
          refine XS.ifNo Xg158.here hx rfl (hb hby at_373) rfl ((if0 _ _).trans (feq hc373).1) ?_
          refine XS.iconst Xg158.here hx rfl (hb hby at_376) ?_
          refine XS.goto Xg158.here hx rfl (pc0 := 377) (pc' := 381) rfl (hb hby at_377) (by decide) (by decide) ?_
          exact Steps.refl _)
        subst hr159
        exact ⟨T158, _, (1 : Int32), Xg158, eh158, Ng158, (by rw [if_neg hc356, if_neg hc373]), K162⟩
  have K163 := K153.trans S154
  have K164 : Steps p.tables e below _ (T154.setTop (mkF m 385 #[.val (.long q0), .second, .val (.int p1), .val (.int p2), .val (.int p3), .val (.long vv), .second, .val (.int off), .val (.int sb), .val (.ref b5), .val (.int nn), .val (.int r91), .val (.int v154_0)] [(.int v154_0)])) := K163.trans (by
    refine XS.istore X154.here hx rfl (hb hby at_381) rfl (l' := #[.val (.long q0), .second, .val (.int p1), .val (.int p2), .val (.int p3), .val (.long vv), .second, .val (.int off), .val (.int sb), .val (.ref b5), .val (.int nn), .val (.int r91), .val (.int v154_0)]) rfl ?_
    refine XS.iload X154.here hx rfl (hb hby at_383) rfl ?_
    exact Steps.refl _)
  obtain ⟨T165, L165, v165_0, X165, e165, N165, hv165_0, S165⟩ : ∃ (T165 : State) (L165 : List Loc) (v165_0 : Int32), Stand p l e room_1 s m #[(.long q0), (.int p1), (.int p2), (.int p3)] below meth c T165 L165 1 16 ∧ T165.heap = T90.heap ∧ Fr n0 L165 ∧ (if v154_0 = (0 : Int32) then (0 : Int32) else (if (f_rm3 (6 : Int32) off nn vv sb (own_by vsx (6 : Int32))) = (0 : Int32) then (0 : Int32) else (1 : Int32))) = v165_0 ∧ Steps p.tables e below (T154.setTop (mkF m 385 #[.val (.long q0), .second, .val (.int p1), .val (.int p2), .val (.int p3), .val (.long vv), .second, .val (.int off), .val (.int sb), .val (.ref b5), .val (.int nn), .val (.int r91), .val (.int v154_0)] [(.int v154_0)])) (T165.setTop (mkF m 411 #[.val (.long q0), .second, .val (.int p1), .val (.int p2), .val (.int p3), .val (.long vv), .second, .val (.int off), .val (.int sb), .val (.ref b5), .val (.int nn), .val (.int r91), .val (.int v154_0)] [(.int v165_0)])) := by
    have R165 := Steps.refl (tb := p.tables) (e := e) (below := below) (T154.setTop (mkF m 385 #[.val (.long q0), .second, .val (.int p1), .val (.int p2), .val (.int p3), .val (.long vv), .second, .val (.int off), .val (.int sb), .val (.ref b5), .val (.int nn), .val (.int r91), .val (.int v154_0)] [(.int v154_0)]))
    by_cases hc385 : v154_0 = (0 : Int32)
    · have K166 : Steps p.tables e below _ (T154.setTop (mkF m 411 #[.val (.long q0), .second, .val (.int p1), .val (.int p2), .val (.int p3), .val (.long vv), .second, .val (.int off), .val (.int sb), .val (.ref b5), .val (.int nn), .val (.int r91), .val (.int v154_0)] [(.int (0 : Int32))])) := R165.trans (by
        refine XS.ifYes X154.here hx rfl (pc0 := 385) (pc' := 410) rfl (hb hby at_385) rfl ((if0 _ _).trans (teq hc385).1) (by decide) (by decide) ?_
        refine XS.iconst X154.here hx rfl (hb hby at_410) ?_
        exact Steps.refl _)
      exact ⟨T154, _, (0 : Int32), X154, e154, N154, (by rw [if_pos hc385]), K166⟩
    · have K167 : Steps p.tables e below _ (T154.setTop (mkF m 400 #[.val (.long q0), .second, .val (.int p1), .val (.int p2), .val (.int p3), .val (.long vv), .second, .val (.int off), .val (.int sb), .val (.ref b5), .val (.int nn), .val (.int r91), .val (.int v154_0)] [(.int sb), (.long vv), (.int nn), (.int off), (.int (6 : Int32)), (.ref b5)])) := R165.trans (by
        refine XS.ifNo X154.here hx rfl (hb hby at_385) rfl ((if0 _ _).trans (feq hc385).1) ?_
        refine XS.aload X154.here hx rfl (hb hby at_388) rfl rfl ?_
        refine XS.bipush X154.here hx rfl (hb hby at_390) ?_
        refine XS.iload X154.here hx rfl (hb hby at_392) rfl ?_
        refine XS.iload X154.here hx rfl (hb hby at_394) rfl ?_
        show Steps p.tables e below (T154.setTop (mkF m 396 #[.val (.long q0), .second, .val (.int p1), .val (.int p2), .val (.int p3), .val (.long vv), .second, .val (.int off), .val (.int sb), .val (.ref b5), .val (.int nn), .val (.int r91), .val (.int v154_0)] [(.int nn), (.int off), (.int (6 : Int32)), (.ref b5)])) _
        refine XS.lload X154.here hx rfl (hb hby at_396) rfl ?_
        refine XS.iload X154.here hx rfl (hb hby at_398) rfl ?_
        exact Steps.refl _)
      have Z_168 : n0 ≤ T90.heap.size := (Nat.le_trans Z_56 Kp90.1)
      obtain ⟨_, _, ⟨T169, L169, k169, n169⟩, -, X169, ⟨Lc169, hQ169, l169, y169, z169⟩, st169⟩ := Jvm.LawKit.callS X154 hx (y := (⟨"com/example/windward/windward/storage/VarIntsWritePinLaw", "at", "([BIIIJB)Z"⟩ : MethodName)) hown (mvT hZ (hw _ (List.mem_of_getElem? (i := 11) rfl))) (mvT hZ (hw _ (List.mem_of_getElem? (i := 12) rfl))) (mvT hZ (hw _ (List.mem_of_getElem? (i := 4) rfl))) (mvT hZ (hw _ (List.mem_of_getElem? (i := 13) rfl))) (by decide) (backOf (W := 0) (rm3 l Z a0 hw [] b5 (6 : Int32) off nn vv sb k5 vsx (own_by vsx (6 : Int32)) T90.heap n0 Z_168 Q90_0 (by decide) (hai _)) hZ (hw _ (List.mem_of_getElem? (i := 13) rfl)) (hw _ (List.mem_of_getElem? (i := 4) rfl)) (by decide) (by decide)) (g := (mkF m 400 #[.val (.long q0), .second, .val (.int p1), .val (.int p2), .val (.int p3), .val (.long vv), .second, .val (.int off), .val (.int sb), .val (.ref b5), .val (.int nn), .val (.int r91), .val (.int v154_0)] [(.int sb), (.long vv), (.int nn), (.int off), (.int (6 : Int32)), (.ref b5)])) rfl (by rw [hml]; rfl) (argsL := [(.ref b5), (.int (6 : Int32)), (.int off), (.int nn), (.long vv), (.int sb)]) (rest := []) (lenOf pd_2 rfl) rfl (by show 2 * 0 + _ ≤ _; exact Nat.le_of_eq rfl) (hb hby at_400) (fun _ _ => ⟨rfl, e154, (by decide : 1 + 0 ≤ _), (by decide : 16 + 0 ≤ _)⟩)
      dsimp only [Pt.U, Pt.locs, Pt.cells, Pt.slots] at X169 l169 y169 z169 st169 hQ169
      subst l169 y169 z169
      obtain ⟨rfl, N169, eh169⟩ := hQ169
      have N169' := Fr.app N154 N169
      obtain ⟨Lg169, Xg169, Ng169⟩ : ∃ Lg, Stand p l e room_1 s m #[(.long q0), (.int p1), (.int p2), (.int p3)] below meth c T169 Lg 1 16 ∧ Fr n0 Lg := ⟨_, X169, N169'⟩
      have K171 : Steps p.tables e below _ (T169.setTop (mkF m 403 #[.val (.long q0), .second, .val (.int p1), .val (.int p2), .val (.int p3), .val (.long vv), .second, .val (.int off), .val (.int sb), .val (.ref b5), .val (.int nn), .val (.int r91), .val (.int v154_0)] [(.int (f_rm3 (6 : Int32) off nn vv sb (own_by vsx (6 : Int32))))])) := K167.trans (st169 _ (Steps.refl _))
      obtain ⟨r170, hr170⟩ : ∃ z : Int32, (f_rm3 (6 : Int32) off nn vv sb (own_by vsx (6 : Int32))) = z := ⟨_, rfl⟩
      rw [hr170] at K171
      by_cases hc403 : r170 = (0 : Int32)
      · have K172 : Steps p.tables e below _ (T169.setTop (mkF m 411 #[.val (.long q0), .second, .val (.int p1), .val (.int p2), .val (.int p3), .val (.long vv), .second, .val (.int off), .val (.int sb), .val (.ref b5), .val (.int nn), .val (.int r91), .val (.int v154_0)] [(.int (0 : Int32))])) := K171.trans (by
          refine XS.ifYes Xg169.here hx rfl (pc0 := 403) (pc' := 410) rfl (hb hby at_403) rfl ((if0 _ _).trans (teq hc403).1) (by decide) (by decide) ?_
          refine XS.iconst Xg169.here hx rfl (hb hby at_410) ?_
          exact Steps.refl _)
        subst hr170
        exact ⟨T169, _, (0 : Int32), Xg169, eh169, Ng169, (by rw [if_neg hc385, if_pos hc403]), K172⟩
      · have K173 : Steps p.tables e below _ (T169.setTop (mkF m 411 #[.val (.long q0), .second, .val (.int p1), .val (.int p2), .val (.int p3), .val (.long vv), .second, .val (.int off), .val (.int sb), .val (.ref b5), .val (.int nn), .val (.int r91), .val (.int v154_0)] [(.int (1 : Int32))])) := K171.trans (by
          refine XS.ifNo Xg169.here hx rfl (hb hby at_403) rfl ((if0 _ _).trans (feq hc403).1) ?_
          refine XS.iconst Xg169.here hx rfl (hb hby at_406) ?_
          refine XS.goto Xg169.here hx rfl (pc0 := 407) (pc' := 411) rfl (hb hby at_407) (by decide) (by decide) ?_
          exact Steps.refl _)
        subst hr170
        exact ⟨T169, _, (1 : Int32), Xg169, eh169, Ng169, (by rw [if_neg hc385, if_neg hc403]), K173⟩
  have K174 := K164.trans S165
  have K175 : Steps p.tables e below _ (T165.setTop (mkF m 415 #[.val (.long q0), .second, .val (.int p1), .val (.int p2), .val (.int p3), .val (.long vv), .second, .val (.int off), .val (.int sb), .val (.ref b5), .val (.int nn), .val (.int r91), .val (.int v165_0)] [(.int v165_0)])) := K174.trans (by
    refine XS.istore X165.here hx rfl (hb hby at_411) rfl (l' := #[.val (.long q0), .second, .val (.int p1), .val (.int p2), .val (.int p3), .val (.long vv), .second, .val (.int off), .val (.int sb), .val (.ref b5), .val (.int nn), .val (.int r91), .val (.int v165_0)]) rfl ?_
    refine XS.iload X165.here hx rfl (hb hby at_413) rfl ?_
    exact Steps.refl _)
  obtain ⟨T176, L176, v176_0, X176, e176, N176, hv176_0, S176⟩ : ∃ (T176 : State) (L176 : List Loc) (v176_0 : Int32), Stand p l e room_1 s m #[(.long q0), (.int p1), (.int p2), (.int p3)] below meth c T176 L176 1 16 ∧ T176.heap = T90.heap ∧ Fr n0 L176 ∧ (if v165_0 = (0 : Int32) then (0 : Int32) else (if (f_rm3 (7 : Int32) off nn vv sb (own_by vsx (7 : Int32))) = (0 : Int32) then (0 : Int32) else (1 : Int32))) = v176_0 ∧ Steps p.tables e below (T165.setTop (mkF m 415 #[.val (.long q0), .second, .val (.int p1), .val (.int p2), .val (.int p3), .val (.long vv), .second, .val (.int off), .val (.int sb), .val (.ref b5), .val (.int nn), .val (.int r91), .val (.int v165_0)] [(.int v165_0)])) (T176.setTop (mkF m 441 #[.val (.long q0), .second, .val (.int p1), .val (.int p2), .val (.int p3), .val (.long vv), .second, .val (.int off), .val (.int sb), .val (.ref b5), .val (.int nn), .val (.int r91), .val (.int v165_0)] [(.int v176_0)])) := by
    have R176 := Steps.refl (tb := p.tables) (e := e) (below := below) (T165.setTop (mkF m 415 #[.val (.long q0), .second, .val (.int p1), .val (.int p2), .val (.int p3), .val (.long vv), .second, .val (.int off), .val (.int sb), .val (.ref b5), .val (.int nn), .val (.int r91), .val (.int v165_0)] [(.int v165_0)]))
    by_cases hc415 : v165_0 = (0 : Int32)
    · have K177 : Steps p.tables e below _ (T165.setTop (mkF m 441 #[.val (.long q0), .second, .val (.int p1), .val (.int p2), .val (.int p3), .val (.long vv), .second, .val (.int off), .val (.int sb), .val (.ref b5), .val (.int nn), .val (.int r91), .val (.int v165_0)] [(.int (0 : Int32))])) := R176.trans (by
        refine XS.ifYes X165.here hx rfl (pc0 := 415) (pc' := 440) rfl (hb hby at_415) rfl ((if0 _ _).trans (teq hc415).1) (by decide) (by decide) ?_
        refine XS.iconst X165.here hx rfl (hb hby at_440) ?_
        exact Steps.refl _)
      exact ⟨T165, _, (0 : Int32), X165, e165, N165, (by rw [if_pos hc415]), K177⟩
    · have K178 : Steps p.tables e below _ (T165.setTop (mkF m 430 #[.val (.long q0), .second, .val (.int p1), .val (.int p2), .val (.int p3), .val (.long vv), .second, .val (.int off), .val (.int sb), .val (.ref b5), .val (.int nn), .val (.int r91), .val (.int v165_0)] [(.int sb), (.long vv), (.int nn), (.int off), (.int (7 : Int32)), (.ref b5)])) := R176.trans (by
        refine XS.ifNo X165.here hx rfl (hb hby at_415) rfl ((if0 _ _).trans (feq hc415).1) ?_
        refine XS.aload X165.here hx rfl (hb hby at_418) rfl rfl ?_
        refine XS.bipush X165.here hx rfl (hb hby at_420) ?_
        refine XS.iload X165.here hx rfl (hb hby at_422) rfl ?_
        refine XS.iload X165.here hx rfl (hb hby at_424) rfl ?_
        show Steps p.tables e below (T165.setTop (mkF m 426 #[.val (.long q0), .second, .val (.int p1), .val (.int p2), .val (.int p3), .val (.long vv), .second, .val (.int off), .val (.int sb), .val (.ref b5), .val (.int nn), .val (.int r91), .val (.int v165_0)] [(.int nn), (.int off), (.int (7 : Int32)), (.ref b5)])) _
        refine XS.lload X165.here hx rfl (hb hby at_426) rfl ?_
        refine XS.iload X165.here hx rfl (hb hby at_428) rfl ?_
        exact Steps.refl _)
      have Z_179 : n0 ≤ T90.heap.size := (Nat.le_trans Z_56 Kp90.1)
      obtain ⟨_, _, ⟨T180, L180, k180, n180⟩, -, X180, ⟨Lc180, hQ180, l180, y180, z180⟩, st180⟩ := Jvm.LawKit.callS X165 hx (y := (⟨"com/example/windward/windward/storage/VarIntsWritePinLaw", "at", "([BIIIJB)Z"⟩ : MethodName)) hown (mvT hZ (hw _ (List.mem_of_getElem? (i := 11) rfl))) (mvT hZ (hw _ (List.mem_of_getElem? (i := 12) rfl))) (mvT hZ (hw _ (List.mem_of_getElem? (i := 4) rfl))) (mvT hZ (hw _ (List.mem_of_getElem? (i := 13) rfl))) (by decide) (backOf (W := 0) (rm3 l Z a0 hw [] b5 (7 : Int32) off nn vv sb k5 vsx (own_by vsx (7 : Int32)) T90.heap n0 Z_179 Q90_0 (by decide) (hai _)) hZ (hw _ (List.mem_of_getElem? (i := 13) rfl)) (hw _ (List.mem_of_getElem? (i := 4) rfl)) (by decide) (by decide)) (g := (mkF m 430 #[.val (.long q0), .second, .val (.int p1), .val (.int p2), .val (.int p3), .val (.long vv), .second, .val (.int off), .val (.int sb), .val (.ref b5), .val (.int nn), .val (.int r91), .val (.int v165_0)] [(.int sb), (.long vv), (.int nn), (.int off), (.int (7 : Int32)), (.ref b5)])) rfl (by rw [hml]; rfl) (argsL := [(.ref b5), (.int (7 : Int32)), (.int off), (.int nn), (.long vv), (.int sb)]) (rest := []) (lenOf pd_2 rfl) rfl (by show 2 * 0 + _ ≤ _; exact Nat.le_of_eq rfl) (hb hby at_430) (fun _ _ => ⟨rfl, e165, (by decide : 1 + 0 ≤ _), (by decide : 16 + 0 ≤ _)⟩)
      dsimp only [Pt.U, Pt.locs, Pt.cells, Pt.slots] at X180 l180 y180 z180 st180 hQ180
      subst l180 y180 z180
      obtain ⟨rfl, N180, eh180⟩ := hQ180
      have N180' := Fr.app N165 N180
      obtain ⟨Lg180, Xg180, Ng180⟩ : ∃ Lg, Stand p l e room_1 s m #[(.long q0), (.int p1), (.int p2), (.int p3)] below meth c T180 Lg 1 16 ∧ Fr n0 Lg := ⟨_, X180, N180'⟩
      have K182 : Steps p.tables e below _ (T180.setTop (mkF m 433 #[.val (.long q0), .second, .val (.int p1), .val (.int p2), .val (.int p3), .val (.long vv), .second, .val (.int off), .val (.int sb), .val (.ref b5), .val (.int nn), .val (.int r91), .val (.int v165_0)] [(.int (f_rm3 (7 : Int32) off nn vv sb (own_by vsx (7 : Int32))))])) := K178.trans (st180 _ (Steps.refl _))
      obtain ⟨r181, hr181⟩ : ∃ z : Int32, (f_rm3 (7 : Int32) off nn vv sb (own_by vsx (7 : Int32))) = z := ⟨_, rfl⟩
      rw [hr181] at K182
      by_cases hc433 : r181 = (0 : Int32)
      · have K183 : Steps p.tables e below _ (T180.setTop (mkF m 441 #[.val (.long q0), .second, .val (.int p1), .val (.int p2), .val (.int p3), .val (.long vv), .second, .val (.int off), .val (.int sb), .val (.ref b5), .val (.int nn), .val (.int r91), .val (.int v165_0)] [(.int (0 : Int32))])) := K182.trans (by
          refine XS.ifYes Xg180.here hx rfl (pc0 := 433) (pc' := 440) rfl (hb hby at_433) rfl ((if0 _ _).trans (teq hc433).1) (by decide) (by decide) ?_
          refine XS.iconst Xg180.here hx rfl (hb hby at_440) ?_
          exact Steps.refl _)
        subst hr181
        exact ⟨T180, _, (0 : Int32), Xg180, eh180, Ng180, (by rw [if_neg hc415, if_pos hc433]), K183⟩
      · have K184 : Steps p.tables e below _ (T180.setTop (mkF m 441 #[.val (.long q0), .second, .val (.int p1), .val (.int p2), .val (.int p3), .val (.long vv), .second, .val (.int off), .val (.int sb), .val (.ref b5), .val (.int nn), .val (.int r91), .val (.int v165_0)] [(.int (1 : Int32))])) := K182.trans (by
          refine XS.ifNo Xg180.here hx rfl (hb hby at_433) rfl ((if0 _ _).trans (feq hc433).1) ?_
          refine XS.iconst Xg180.here hx rfl (hb hby at_436) ?_
          refine XS.goto Xg180.here hx rfl (pc0 := 437) (pc' := 441) rfl (hb hby at_437) (by decide) (by decide) ?_
          exact Steps.refl _)
        subst hr181
        exact ⟨T180, _, (1 : Int32), Xg180, eh180, Ng180, (by rw [if_neg hc415, if_neg hc433]), K184⟩
  have K185 := K175.trans S176
  have K186 : Steps p.tables e below _ (T176.setTop (mkF m 445 #[.val (.long q0), .second, .val (.int p1), .val (.int p2), .val (.int p3), .val (.long vv), .second, .val (.int off), .val (.int sb), .val (.ref b5), .val (.int nn), .val (.int r91), .val (.int v176_0)] [(.int v176_0)])) := K185.trans (by
    refine XS.istore X176.here hx rfl (hb hby at_441) rfl (l' := #[.val (.long q0), .second, .val (.int p1), .val (.int p2), .val (.int p3), .val (.long vv), .second, .val (.int off), .val (.int sb), .val (.ref b5), .val (.int nn), .val (.int r91), .val (.int v176_0)]) rfl ?_
    refine XS.iload X176.here hx rfl (hb hby at_443) rfl ?_
    exact Steps.refl _)
  obtain ⟨T187, L187, v187_0, X187, e187, N187, hv187_0, S187⟩ : ∃ (T187 : State) (L187 : List Loc) (v187_0 : Int32), Stand p l e room_1 s m #[(.long q0), (.int p1), (.int p2), (.int p3)] below meth c T187 L187 1 16 ∧ T187.heap = T90.heap ∧ Fr n0 L187 ∧ (if v176_0 = (0 : Int32) then (0 : Int32) else (if (f_rm3 (8 : Int32) off nn vv sb (own_by vsx (8 : Int32))) = (0 : Int32) then (0 : Int32) else (1 : Int32))) = v187_0 ∧ Steps p.tables e below (T176.setTop (mkF m 445 #[.val (.long q0), .second, .val (.int p1), .val (.int p2), .val (.int p3), .val (.long vv), .second, .val (.int off), .val (.int sb), .val (.ref b5), .val (.int nn), .val (.int r91), .val (.int v176_0)] [(.int v176_0)])) (T187.setTop (mkF m 471 #[.val (.long q0), .second, .val (.int p1), .val (.int p2), .val (.int p3), .val (.long vv), .second, .val (.int off), .val (.int sb), .val (.ref b5), .val (.int nn), .val (.int r91), .val (.int v176_0)] [(.int v187_0)])) := by
    have R187 := Steps.refl (tb := p.tables) (e := e) (below := below) (T176.setTop (mkF m 445 #[.val (.long q0), .second, .val (.int p1), .val (.int p2), .val (.int p3), .val (.long vv), .second, .val (.int off), .val (.int sb), .val (.ref b5), .val (.int nn), .val (.int r91), .val (.int v176_0)] [(.int v176_0)]))
    by_cases hc445 : v176_0 = (0 : Int32)
    · have K188 : Steps p.tables e below _ (T176.setTop (mkF m 471 #[.val (.long q0), .second, .val (.int p1), .val (.int p2), .val (.int p3), .val (.long vv), .second, .val (.int off), .val (.int sb), .val (.ref b5), .val (.int nn), .val (.int r91), .val (.int v176_0)] [(.int (0 : Int32))])) := R187.trans (by
        refine XS.ifYes X176.here hx rfl (pc0 := 445) (pc' := 470) rfl (hb hby at_445) rfl ((if0 _ _).trans (teq hc445).1) (by decide) (by decide) ?_
        refine XS.iconst X176.here hx rfl (hb hby at_470) ?_
        exact Steps.refl _)
      exact ⟨T176, _, (0 : Int32), X176, e176, N176, (by rw [if_pos hc445]), K188⟩
    · have K189 : Steps p.tables e below _ (T176.setTop (mkF m 460 #[.val (.long q0), .second, .val (.int p1), .val (.int p2), .val (.int p3), .val (.long vv), .second, .val (.int off), .val (.int sb), .val (.ref b5), .val (.int nn), .val (.int r91), .val (.int v176_0)] [(.int sb), (.long vv), (.int nn), (.int off), (.int (8 : Int32)), (.ref b5)])) := R187.trans (by
        refine XS.ifNo X176.here hx rfl (hb hby at_445) rfl ((if0 _ _).trans (feq hc445).1) ?_
        refine XS.aload X176.here hx rfl (hb hby at_448) rfl rfl ?_
        refine XS.bipush X176.here hx rfl (hb hby at_450) ?_
        refine XS.iload X176.here hx rfl (hb hby at_452) rfl ?_
        refine XS.iload X176.here hx rfl (hb hby at_454) rfl ?_
        show Steps p.tables e below (T176.setTop (mkF m 456 #[.val (.long q0), .second, .val (.int p1), .val (.int p2), .val (.int p3), .val (.long vv), .second, .val (.int off), .val (.int sb), .val (.ref b5), .val (.int nn), .val (.int r91), .val (.int v176_0)] [(.int nn), (.int off), (.int (8 : Int32)), (.ref b5)])) _
        refine XS.lload X176.here hx rfl (hb hby at_456) rfl ?_
        refine XS.iload X176.here hx rfl (hb hby at_458) rfl ?_
        exact Steps.refl _)
      have Z_190 : n0 ≤ T90.heap.size := (Nat.le_trans Z_56 Kp90.1)
      obtain ⟨_, _, ⟨T191, L191, k191, n191⟩, -, X191, ⟨Lc191, hQ191, l191, y191, z191⟩, st191⟩ := Jvm.LawKit.callS X176 hx (y := (⟨"com/example/windward/windward/storage/VarIntsWritePinLaw", "at", "([BIIIJB)Z"⟩ : MethodName)) hown (mvT hZ (hw _ (List.mem_of_getElem? (i := 11) rfl))) (mvT hZ (hw _ (List.mem_of_getElem? (i := 12) rfl))) (mvT hZ (hw _ (List.mem_of_getElem? (i := 4) rfl))) (mvT hZ (hw _ (List.mem_of_getElem? (i := 13) rfl))) (by decide) (backOf (W := 0) (rm3 l Z a0 hw [] b5 (8 : Int32) off nn vv sb k5 vsx (own_by vsx (8 : Int32)) T90.heap n0 Z_190 Q90_0 (by decide) (hai _)) hZ (hw _ (List.mem_of_getElem? (i := 13) rfl)) (hw _ (List.mem_of_getElem? (i := 4) rfl)) (by decide) (by decide)) (g := (mkF m 460 #[.val (.long q0), .second, .val (.int p1), .val (.int p2), .val (.int p3), .val (.long vv), .second, .val (.int off), .val (.int sb), .val (.ref b5), .val (.int nn), .val (.int r91), .val (.int v176_0)] [(.int sb), (.long vv), (.int nn), (.int off), (.int (8 : Int32)), (.ref b5)])) rfl (by rw [hml]; rfl) (argsL := [(.ref b5), (.int (8 : Int32)), (.int off), (.int nn), (.long vv), (.int sb)]) (rest := []) (lenOf pd_2 rfl) rfl (by show 2 * 0 + _ ≤ _; exact Nat.le_of_eq rfl) (hb hby at_460) (fun _ _ => ⟨rfl, e176, (by decide : 1 + 0 ≤ _), (by decide : 16 + 0 ≤ _)⟩)
      dsimp only [Pt.U, Pt.locs, Pt.cells, Pt.slots] at X191 l191 y191 z191 st191 hQ191
      subst l191 y191 z191
      obtain ⟨rfl, N191, eh191⟩ := hQ191
      have N191' := Fr.app N176 N191
      obtain ⟨Lg191, Xg191, Ng191⟩ : ∃ Lg, Stand p l e room_1 s m #[(.long q0), (.int p1), (.int p2), (.int p3)] below meth c T191 Lg 1 16 ∧ Fr n0 Lg := ⟨_, X191, N191'⟩
      have K193 : Steps p.tables e below _ (T191.setTop (mkF m 463 #[.val (.long q0), .second, .val (.int p1), .val (.int p2), .val (.int p3), .val (.long vv), .second, .val (.int off), .val (.int sb), .val (.ref b5), .val (.int nn), .val (.int r91), .val (.int v176_0)] [(.int (f_rm3 (8 : Int32) off nn vv sb (own_by vsx (8 : Int32))))])) := K189.trans (st191 _ (Steps.refl _))
      obtain ⟨r192, hr192⟩ : ∃ z : Int32, (f_rm3 (8 : Int32) off nn vv sb (own_by vsx (8 : Int32))) = z := ⟨_, rfl⟩
      rw [hr192] at K193
      by_cases hc463 : r192 = (0 : Int32)
      · have K194 : Steps p.tables e below _ (T191.setTop (mkF m 471 #[.val (.long q0), .second, .val (.int p1), .val (.int p2), .val (.int p3), .val (.long vv), .second, .val (.int off), .val (.int sb), .val (.ref b5), .val (.int nn), .val (.int r91), .val (.int v176_0)] [(.int (0 : Int32))])) := K193.trans (by
          refine XS.ifYes Xg191.here hx rfl (pc0 := 463) (pc' := 470) rfl (hb hby at_463) rfl ((if0 _ _).trans (teq hc463).1) (by decide) (by decide) ?_
          refine XS.iconst Xg191.here hx rfl (hb hby at_470) ?_
          exact Steps.refl _)
        subst hr192
        exact ⟨T191, _, (0 : Int32), Xg191, eh191, Ng191, (by rw [if_neg hc445, if_pos hc463]), K194⟩
      · have K195 : Steps p.tables e below _ (T191.setTop (mkF m 471 #[.val (.long q0), .second, .val (.int p1), .val (.int p2), .val (.int p3), .val (.long vv), .second, .val (.int off), .val (.int sb), .val (.ref b5), .val (.int nn), .val (.int r91), .val (.int v176_0)] [(.int (1 : Int32))])) := K193.trans (by
          refine XS.ifNo Xg191.here hx rfl (hb hby at_463) rfl ((if0 _ _).trans (feq hc463).1) ?_
          refine XS.iconst Xg191.here hx rfl (hb hby at_466) ?_
          refine XS.goto Xg191.here hx rfl (pc0 := 467) (pc' := 471) rfl (hb hby at_467) (by decide) (by decide) ?_
          exact Steps.refl _)
        subst hr192
        exact ⟨T191, _, (1 : Int32), Xg191, eh191, Ng191, (by rw [if_neg hc445, if_neg hc463]), K195⟩
  have K196 := K186.trans S187
  have K197 : Steps p.tables e below _ (T187.setTop (mkF m 475 #[.val (.long q0), .second, .val (.int p1), .val (.int p2), .val (.int p3), .val (.long vv), .second, .val (.int off), .val (.int sb), .val (.ref b5), .val (.int nn), .val (.int r91), .val (.int v187_0)] [(.int v187_0)])) := K196.trans (by
    refine XS.istore X187.here hx rfl (hb hby at_471) rfl (l' := #[.val (.long q0), .second, .val (.int p1), .val (.int p2), .val (.int p3), .val (.long vv), .second, .val (.int off), .val (.int sb), .val (.ref b5), .val (.int nn), .val (.int r91), .val (.int v187_0)]) rfl ?_
    refine XS.iload X187.here hx rfl (hb hby at_473) rfl ?_
    exact Steps.refl _)
  obtain ⟨T198, L198, v198_0, X198, e198, N198, hv198_0, S198⟩ : ∃ (T198 : State) (L198 : List Loc) (v198_0 : Int32), Stand p l e room_1 s m #[(.long q0), (.int p1), (.int p2), (.int p3)] below meth c T198 L198 1 16 ∧ T198.heap = T90.heap ∧ Fr n0 L198 ∧ (if v187_0 = (0 : Int32) then (0 : Int32) else (if (f_rm3 (9 : Int32) off nn vv sb (own_by vsx (9 : Int32))) = (0 : Int32) then (0 : Int32) else (1 : Int32))) = v198_0 ∧ Steps p.tables e below (T187.setTop (mkF m 475 #[.val (.long q0), .second, .val (.int p1), .val (.int p2), .val (.int p3), .val (.long vv), .second, .val (.int off), .val (.int sb), .val (.ref b5), .val (.int nn), .val (.int r91), .val (.int v187_0)] [(.int v187_0)])) (T198.setTop (mkF m 501 #[.val (.long q0), .second, .val (.int p1), .val (.int p2), .val (.int p3), .val (.long vv), .second, .val (.int off), .val (.int sb), .val (.ref b5), .val (.int nn), .val (.int r91), .val (.int v187_0)] [(.int v198_0)])) := by
    have R198 := Steps.refl (tb := p.tables) (e := e) (below := below) (T187.setTop (mkF m 475 #[.val (.long q0), .second, .val (.int p1), .val (.int p2), .val (.int p3), .val (.long vv), .second, .val (.int off), .val (.int sb), .val (.ref b5), .val (.int nn), .val (.int r91), .val (.int v187_0)] [(.int v187_0)]))
    by_cases hc475 : v187_0 = (0 : Int32)
    · have K199 : Steps p.tables e below _ (T187.setTop (mkF m 501 #[.val (.long q0), .second, .val (.int p1), .val (.int p2), .val (.int p3), .val (.long vv), .second, .val (.int off), .val (.int sb), .val (.ref b5), .val (.int nn), .val (.int r91), .val (.int v187_0)] [(.int (0 : Int32))])) := R198.trans (by
        refine XS.ifYes X187.here hx rfl (pc0 := 475) (pc' := 500) rfl (hb hby at_475) rfl ((if0 _ _).trans (teq hc475).1) (by decide) (by decide) ?_
        refine XS.iconst X187.here hx rfl (hb hby at_500) ?_
        exact Steps.refl _)
      exact ⟨T187, _, (0 : Int32), X187, e187, N187, (by rw [if_pos hc475]), K199⟩
    · have K200 : Steps p.tables e below _ (T187.setTop (mkF m 490 #[.val (.long q0), .second, .val (.int p1), .val (.int p2), .val (.int p3), .val (.long vv), .second, .val (.int off), .val (.int sb), .val (.ref b5), .val (.int nn), .val (.int r91), .val (.int v187_0)] [(.int sb), (.long vv), (.int nn), (.int off), (.int (9 : Int32)), (.ref b5)])) := R198.trans (by
        refine XS.ifNo X187.here hx rfl (hb hby at_475) rfl ((if0 _ _).trans (feq hc475).1) ?_
        refine XS.aload X187.here hx rfl (hb hby at_478) rfl rfl ?_
        refine XS.bipush X187.here hx rfl (hb hby at_480) ?_
        refine XS.iload X187.here hx rfl (hb hby at_482) rfl ?_
        refine XS.iload X187.here hx rfl (hb hby at_484) rfl ?_
        show Steps p.tables e below (T187.setTop (mkF m 486 #[.val (.long q0), .second, .val (.int p1), .val (.int p2), .val (.int p3), .val (.long vv), .second, .val (.int off), .val (.int sb), .val (.ref b5), .val (.int nn), .val (.int r91), .val (.int v187_0)] [(.int nn), (.int off), (.int (9 : Int32)), (.ref b5)])) _
        refine XS.lload X187.here hx rfl (hb hby at_486) rfl ?_
        refine XS.iload X187.here hx rfl (hb hby at_488) rfl ?_
        exact Steps.refl _)
      have Z_201 : n0 ≤ T90.heap.size := (Nat.le_trans Z_56 Kp90.1)
      obtain ⟨_, _, ⟨T202, L202, k202, n202⟩, -, X202, ⟨Lc202, hQ202, l202, y202, z202⟩, st202⟩ := Jvm.LawKit.callS X187 hx (y := (⟨"com/example/windward/windward/storage/VarIntsWritePinLaw", "at", "([BIIIJB)Z"⟩ : MethodName)) hown (mvT hZ (hw _ (List.mem_of_getElem? (i := 11) rfl))) (mvT hZ (hw _ (List.mem_of_getElem? (i := 12) rfl))) (mvT hZ (hw _ (List.mem_of_getElem? (i := 4) rfl))) (mvT hZ (hw _ (List.mem_of_getElem? (i := 13) rfl))) (by decide) (backOf (W := 0) (rm3 l Z a0 hw [] b5 (9 : Int32) off nn vv sb k5 vsx (own_by vsx (9 : Int32)) T90.heap n0 Z_201 Q90_0 (by decide) (hai _)) hZ (hw _ (List.mem_of_getElem? (i := 13) rfl)) (hw _ (List.mem_of_getElem? (i := 4) rfl)) (by decide) (by decide)) (g := (mkF m 490 #[.val (.long q0), .second, .val (.int p1), .val (.int p2), .val (.int p3), .val (.long vv), .second, .val (.int off), .val (.int sb), .val (.ref b5), .val (.int nn), .val (.int r91), .val (.int v187_0)] [(.int sb), (.long vv), (.int nn), (.int off), (.int (9 : Int32)), (.ref b5)])) rfl (by rw [hml]; rfl) (argsL := [(.ref b5), (.int (9 : Int32)), (.int off), (.int nn), (.long vv), (.int sb)]) (rest := []) (lenOf pd_2 rfl) rfl (by show 2 * 0 + _ ≤ _; exact Nat.le_of_eq rfl) (hb hby at_490) (fun _ _ => ⟨rfl, e187, (by decide : 1 + 0 ≤ _), (by decide : 16 + 0 ≤ _)⟩)
      dsimp only [Pt.U, Pt.locs, Pt.cells, Pt.slots] at X202 l202 y202 z202 st202 hQ202
      subst l202 y202 z202
      obtain ⟨rfl, N202, eh202⟩ := hQ202
      have N202' := Fr.app N187 N202
      obtain ⟨Lg202, Xg202, Ng202⟩ : ∃ Lg, Stand p l e room_1 s m #[(.long q0), (.int p1), (.int p2), (.int p3)] below meth c T202 Lg 1 16 ∧ Fr n0 Lg := ⟨_, X202, N202'⟩
      have K204 : Steps p.tables e below _ (T202.setTop (mkF m 493 #[.val (.long q0), .second, .val (.int p1), .val (.int p2), .val (.int p3), .val (.long vv), .second, .val (.int off), .val (.int sb), .val (.ref b5), .val (.int nn), .val (.int r91), .val (.int v187_0)] [(.int (f_rm3 (9 : Int32) off nn vv sb (own_by vsx (9 : Int32))))])) := K200.trans (st202 _ (Steps.refl _))
      obtain ⟨r203, hr203⟩ : ∃ z : Int32, (f_rm3 (9 : Int32) off nn vv sb (own_by vsx (9 : Int32))) = z := ⟨_, rfl⟩
      rw [hr203] at K204
      by_cases hc493 : r203 = (0 : Int32)
      · have K205 : Steps p.tables e below _ (T202.setTop (mkF m 501 #[.val (.long q0), .second, .val (.int p1), .val (.int p2), .val (.int p3), .val (.long vv), .second, .val (.int off), .val (.int sb), .val (.ref b5), .val (.int nn), .val (.int r91), .val (.int v187_0)] [(.int (0 : Int32))])) := K204.trans (by
          refine XS.ifYes Xg202.here hx rfl (pc0 := 493) (pc' := 500) rfl (hb hby at_493) rfl ((if0 _ _).trans (teq hc493).1) (by decide) (by decide) ?_
          refine XS.iconst Xg202.here hx rfl (hb hby at_500) ?_
          exact Steps.refl _)
        subst hr203
        exact ⟨T202, _, (0 : Int32), Xg202, eh202, Ng202, (by rw [if_neg hc475, if_pos hc493]), K205⟩
      · have K206 : Steps p.tables e below _ (T202.setTop (mkF m 501 #[.val (.long q0), .second, .val (.int p1), .val (.int p2), .val (.int p3), .val (.long vv), .second, .val (.int off), .val (.int sb), .val (.ref b5), .val (.int nn), .val (.int r91), .val (.int v187_0)] [(.int (1 : Int32))])) := K204.trans (by
          refine XS.ifNo Xg202.here hx rfl (hb hby at_493) rfl ((if0 _ _).trans (feq hc493).1) ?_
          refine XS.iconst Xg202.here hx rfl (hb hby at_496) ?_
          refine XS.goto Xg202.here hx rfl (pc0 := 497) (pc' := 501) rfl (hb hby at_497) (by decide) (by decide) ?_
          exact Steps.refl _)
        subst hr203
        exact ⟨T202, _, (1 : Int32), Xg202, eh202, Ng202, (by rw [if_neg hc475, if_neg hc493]), K206⟩
  have K207 := K197.trans S198
  have K208 : Steps p.tables e below _ (T198.setTop (mkF m 505 #[.val (.long q0), .second, .val (.int p1), .val (.int p2), .val (.int p3), .val (.long vv), .second, .val (.int off), .val (.int sb), .val (.ref b5), .val (.int nn), .val (.int r91), .val (.int v198_0)] [(.int v198_0)])) := K207.trans (by
    refine XS.istore X198.here hx rfl (hb hby at_501) rfl (l' := #[.val (.long q0), .second, .val (.int p1), .val (.int p2), .val (.int p3), .val (.long vv), .second, .val (.int off), .val (.int sb), .val (.ref b5), .val (.int nn), .val (.int r91), .val (.int v198_0)]) rfl ?_
    refine XS.iload X198.here hx rfl (hb hby at_503) rfl ?_
    exact Steps.refl _)
  obtain ⟨T209, L209, v209_0, X209, e209, N209, hv209_0, S209⟩ : ∃ (T209 : State) (L209 : List Loc) (v209_0 : Int32), Stand p l e room_1 s m #[(.long q0), (.int p1), (.int p2), (.int p3)] below meth c T209 L209 1 16 ∧ T209.heap = T90.heap ∧ Fr n0 L209 ∧ (if v198_0 = (0 : Int32) then (0 : Int32) else (if (f_rm3 (10 : Int32) off nn vv sb (own_by vsx (10 : Int32))) = (0 : Int32) then (0 : Int32) else (1 : Int32))) = v209_0 ∧ Steps p.tables e below (T198.setTop (mkF m 505 #[.val (.long q0), .second, .val (.int p1), .val (.int p2), .val (.int p3), .val (.long vv), .second, .val (.int off), .val (.int sb), .val (.ref b5), .val (.int nn), .val (.int r91), .val (.int v198_0)] [(.int v198_0)])) (T209.setTop (mkF m 531 #[.val (.long q0), .second, .val (.int p1), .val (.int p2), .val (.int p3), .val (.long vv), .second, .val (.int off), .val (.int sb), .val (.ref b5), .val (.int nn), .val (.int r91), .val (.int v198_0)] [(.int v209_0)])) := by
    have R209 := Steps.refl (tb := p.tables) (e := e) (below := below) (T198.setTop (mkF m 505 #[.val (.long q0), .second, .val (.int p1), .val (.int p2), .val (.int p3), .val (.long vv), .second, .val (.int off), .val (.int sb), .val (.ref b5), .val (.int nn), .val (.int r91), .val (.int v198_0)] [(.int v198_0)]))
    by_cases hc505 : v198_0 = (0 : Int32)
    · have K210 : Steps p.tables e below _ (T198.setTop (mkF m 531 #[.val (.long q0), .second, .val (.int p1), .val (.int p2), .val (.int p3), .val (.long vv), .second, .val (.int off), .val (.int sb), .val (.ref b5), .val (.int nn), .val (.int r91), .val (.int v198_0)] [(.int (0 : Int32))])) := R209.trans (by
        refine XS.ifYes X198.here hx rfl (pc0 := 505) (pc' := 530) rfl (hb hby at_505) rfl ((if0 _ _).trans (teq hc505).1) (by decide) (by decide) ?_
        refine XS.iconst X198.here hx rfl (hb hby at_530) ?_
        exact Steps.refl _)
      exact ⟨T198, _, (0 : Int32), X198, e198, N198, (by rw [if_pos hc505]), K210⟩
    · have K211 : Steps p.tables e below _ (T198.setTop (mkF m 520 #[.val (.long q0), .second, .val (.int p1), .val (.int p2), .val (.int p3), .val (.long vv), .second, .val (.int off), .val (.int sb), .val (.ref b5), .val (.int nn), .val (.int r91), .val (.int v198_0)] [(.int sb), (.long vv), (.int nn), (.int off), (.int (10 : Int32)), (.ref b5)])) := R209.trans (by
        refine XS.ifNo X198.here hx rfl (hb hby at_505) rfl ((if0 _ _).trans (feq hc505).1) ?_
        refine XS.aload X198.here hx rfl (hb hby at_508) rfl rfl ?_
        refine XS.bipush X198.here hx rfl (hb hby at_510) ?_
        refine XS.iload X198.here hx rfl (hb hby at_512) rfl ?_
        refine XS.iload X198.here hx rfl (hb hby at_514) rfl ?_
        show Steps p.tables e below (T198.setTop (mkF m 516 #[.val (.long q0), .second, .val (.int p1), .val (.int p2), .val (.int p3), .val (.long vv), .second, .val (.int off), .val (.int sb), .val (.ref b5), .val (.int nn), .val (.int r91), .val (.int v198_0)] [(.int nn), (.int off), (.int (10 : Int32)), (.ref b5)])) _
        refine XS.lload X198.here hx rfl (hb hby at_516) rfl ?_
        refine XS.iload X198.here hx rfl (hb hby at_518) rfl ?_
        exact Steps.refl _)
      have Z_212 : n0 ≤ T90.heap.size := (Nat.le_trans Z_56 Kp90.1)
      obtain ⟨_, _, ⟨T213, L213, k213, n213⟩, -, X213, ⟨Lc213, hQ213, l213, y213, z213⟩, st213⟩ := Jvm.LawKit.callS X198 hx (y := (⟨"com/example/windward/windward/storage/VarIntsWritePinLaw", "at", "([BIIIJB)Z"⟩ : MethodName)) hown (mvT hZ (hw _ (List.mem_of_getElem? (i := 11) rfl))) (mvT hZ (hw _ (List.mem_of_getElem? (i := 12) rfl))) (mvT hZ (hw _ (List.mem_of_getElem? (i := 4) rfl))) (mvT hZ (hw _ (List.mem_of_getElem? (i := 13) rfl))) (by decide) (backOf (W := 0) (rm3 l Z a0 hw [] b5 (10 : Int32) off nn vv sb k5 vsx (own_by vsx (10 : Int32)) T90.heap n0 Z_212 Q90_0 (by decide) (hai _)) hZ (hw _ (List.mem_of_getElem? (i := 13) rfl)) (hw _ (List.mem_of_getElem? (i := 4) rfl)) (by decide) (by decide)) (g := (mkF m 520 #[.val (.long q0), .second, .val (.int p1), .val (.int p2), .val (.int p3), .val (.long vv), .second, .val (.int off), .val (.int sb), .val (.ref b5), .val (.int nn), .val (.int r91), .val (.int v198_0)] [(.int sb), (.long vv), (.int nn), (.int off), (.int (10 : Int32)), (.ref b5)])) rfl (by rw [hml]; rfl) (argsL := [(.ref b5), (.int (10 : Int32)), (.int off), (.int nn), (.long vv), (.int sb)]) (rest := []) (lenOf pd_2 rfl) rfl (by show 2 * 0 + _ ≤ _; exact Nat.le_of_eq rfl) (hb hby at_520) (fun _ _ => ⟨rfl, e198, (by decide : 1 + 0 ≤ _), (by decide : 16 + 0 ≤ _)⟩)
      dsimp only [Pt.U, Pt.locs, Pt.cells, Pt.slots] at X213 l213 y213 z213 st213 hQ213
      subst l213 y213 z213
      obtain ⟨rfl, N213, eh213⟩ := hQ213
      have N213' := Fr.app N198 N213
      obtain ⟨Lg213, Xg213, Ng213⟩ : ∃ Lg, Stand p l e room_1 s m #[(.long q0), (.int p1), (.int p2), (.int p3)] below meth c T213 Lg 1 16 ∧ Fr n0 Lg := ⟨_, X213, N213'⟩
      have K215 : Steps p.tables e below _ (T213.setTop (mkF m 523 #[.val (.long q0), .second, .val (.int p1), .val (.int p2), .val (.int p3), .val (.long vv), .second, .val (.int off), .val (.int sb), .val (.ref b5), .val (.int nn), .val (.int r91), .val (.int v198_0)] [(.int (f_rm3 (10 : Int32) off nn vv sb (own_by vsx (10 : Int32))))])) := K211.trans (st213 _ (Steps.refl _))
      obtain ⟨r214, hr214⟩ : ∃ z : Int32, (f_rm3 (10 : Int32) off nn vv sb (own_by vsx (10 : Int32))) = z := ⟨_, rfl⟩
      rw [hr214] at K215
      by_cases hc523 : r214 = (0 : Int32)
      · have K216 : Steps p.tables e below _ (T213.setTop (mkF m 531 #[.val (.long q0), .second, .val (.int p1), .val (.int p2), .val (.int p3), .val (.long vv), .second, .val (.int off), .val (.int sb), .val (.ref b5), .val (.int nn), .val (.int r91), .val (.int v198_0)] [(.int (0 : Int32))])) := K215.trans (by
          refine XS.ifYes Xg213.here hx rfl (pc0 := 523) (pc' := 530) rfl (hb hby at_523) rfl ((if0 _ _).trans (teq hc523).1) (by decide) (by decide) ?_
          refine XS.iconst Xg213.here hx rfl (hb hby at_530) ?_
          exact Steps.refl _)
        subst hr214
        exact ⟨T213, _, (0 : Int32), Xg213, eh213, Ng213, (by rw [if_neg hc505, if_pos hc523]), K216⟩
      · have K217 : Steps p.tables e below _ (T213.setTop (mkF m 531 #[.val (.long q0), .second, .val (.int p1), .val (.int p2), .val (.int p3), .val (.long vv), .second, .val (.int off), .val (.int sb), .val (.ref b5), .val (.int nn), .val (.int r91), .val (.int v198_0)] [(.int (1 : Int32))])) := K215.trans (by
          refine XS.ifNo Xg213.here hx rfl (hb hby at_523) rfl ((if0 _ _).trans (feq hc523).1) ?_
          refine XS.iconst Xg213.here hx rfl (hb hby at_526) ?_
          refine XS.goto Xg213.here hx rfl (pc0 := 527) (pc' := 531) rfl (hb hby at_527) (by decide) (by decide) ?_
          exact Steps.refl _)
        subst hr214
        exact ⟨T213, _, (1 : Int32), Xg213, eh213, Ng213, (by rw [if_neg hc505, if_neg hc523]), K217⟩
  have K218 := K208.trans S209
  have K219 : Steps p.tables e below _ (T209.setTop (mkF m 535 #[.val (.long q0), .second, .val (.int p1), .val (.int p2), .val (.int p3), .val (.long vv), .second, .val (.int off), .val (.int sb), .val (.ref b5), .val (.int nn), .val (.int r91), .val (.int v209_0)] [(.int v209_0)])) := K218.trans (by
    refine XS.istore X209.here hx rfl (hb hby at_531) rfl (l' := #[.val (.long q0), .second, .val (.int p1), .val (.int p2), .val (.int p3), .val (.long vv), .second, .val (.int off), .val (.int sb), .val (.ref b5), .val (.int nn), .val (.int r91), .val (.int v209_0)]) rfl ?_
    refine XS.iload X209.here hx rfl (hb hby at_533) rfl ?_
    exact Steps.refl _)
  obtain ⟨T220, L220, v220_0, X220, e220, N220, hv220_0, S220⟩ : ∃ (T220 : State) (L220 : List Loc) (v220_0 : Int32), Stand p l e room_1 s m #[(.long q0), (.int p1), (.int p2), (.int p3)] below meth c T220 L220 1 16 ∧ T220.heap = T90.heap ∧ Fr n0 L220 ∧ (if v209_0 = (0 : Int32) then (0 : Int32) else (if (f_rm3 (11 : Int32) off nn vv sb (own_by vsx (11 : Int32))) = (0 : Int32) then (0 : Int32) else (1 : Int32))) = v220_0 ∧ Steps p.tables e below (T209.setTop (mkF m 535 #[.val (.long q0), .second, .val (.int p1), .val (.int p2), .val (.int p3), .val (.long vv), .second, .val (.int off), .val (.int sb), .val (.ref b5), .val (.int nn), .val (.int r91), .val (.int v209_0)] [(.int v209_0)])) (T220.setTop (mkF m 561 #[.val (.long q0), .second, .val (.int p1), .val (.int p2), .val (.int p3), .val (.long vv), .second, .val (.int off), .val (.int sb), .val (.ref b5), .val (.int nn), .val (.int r91), .val (.int v209_0)] [(.int v220_0)])) := by
    have R220 := Steps.refl (tb := p.tables) (e := e) (below := below) (T209.setTop (mkF m 535 #[.val (.long q0), .second, .val (.int p1), .val (.int p2), .val (.int p3), .val (.long vv), .second, .val (.int off), .val (.int sb), .val (.ref b5), .val (.int nn), .val (.int r91), .val (.int v209_0)] [(.int v209_0)]))
    by_cases hc535 : v209_0 = (0 : Int32)
    · have K221 : Steps p.tables e below _ (T209.setTop (mkF m 561 #[.val (.long q0), .second, .val (.int p1), .val (.int p2), .val (.int p3), .val (.long vv), .second, .val (.int off), .val (.int sb), .val (.ref b5), .val (.int nn), .val (.int r91), .val (.int v209_0)] [(.int (0 : Int32))])) := R220.trans (by
        refine XS.ifYes X209.here hx rfl (pc0 := 535) (pc' := 560) rfl (hb hby at_535) rfl ((if0 _ _).trans (teq hc535).1) (by decide) (by decide) ?_
        refine XS.iconst X209.here hx rfl (hb hby at_560) ?_
        exact Steps.refl _)
      exact ⟨T209, _, (0 : Int32), X209, e209, N209, (by rw [if_pos hc535]), K221⟩
    · have K222 : Steps p.tables e below _ (T209.setTop (mkF m 550 #[.val (.long q0), .second, .val (.int p1), .val (.int p2), .val (.int p3), .val (.long vv), .second, .val (.int off), .val (.int sb), .val (.ref b5), .val (.int nn), .val (.int r91), .val (.int v209_0)] [(.int sb), (.long vv), (.int nn), (.int off), (.int (11 : Int32)), (.ref b5)])) := R220.trans (by
        refine XS.ifNo X209.here hx rfl (hb hby at_535) rfl ((if0 _ _).trans (feq hc535).1) ?_
        refine XS.aload X209.here hx rfl (hb hby at_538) rfl rfl ?_
        refine XS.bipush X209.here hx rfl (hb hby at_540) ?_
        refine XS.iload X209.here hx rfl (hb hby at_542) rfl ?_
        refine XS.iload X209.here hx rfl (hb hby at_544) rfl ?_
        show Steps p.tables e below (T209.setTop (mkF m 546 #[.val (.long q0), .second, .val (.int p1), .val (.int p2), .val (.int p3), .val (.long vv), .second, .val (.int off), .val (.int sb), .val (.ref b5), .val (.int nn), .val (.int r91), .val (.int v209_0)] [(.int nn), (.int off), (.int (11 : Int32)), (.ref b5)])) _
        refine XS.lload X209.here hx rfl (hb hby at_546) rfl ?_
        refine XS.iload X209.here hx rfl (hb hby at_548) rfl ?_
        exact Steps.refl _)
      have Z_223 : n0 ≤ T90.heap.size := (Nat.le_trans Z_56 Kp90.1)
      obtain ⟨_, _, ⟨T224, L224, k224, n224⟩, -, X224, ⟨Lc224, hQ224, l224, y224, z224⟩, st224⟩ := Jvm.LawKit.callS X209 hx (y := (⟨"com/example/windward/windward/storage/VarIntsWritePinLaw", "at", "([BIIIJB)Z"⟩ : MethodName)) hown (mvT hZ (hw _ (List.mem_of_getElem? (i := 11) rfl))) (mvT hZ (hw _ (List.mem_of_getElem? (i := 12) rfl))) (mvT hZ (hw _ (List.mem_of_getElem? (i := 4) rfl))) (mvT hZ (hw _ (List.mem_of_getElem? (i := 13) rfl))) (by decide) (backOf (W := 0) (rm3 l Z a0 hw [] b5 (11 : Int32) off nn vv sb k5 vsx (own_by vsx (11 : Int32)) T90.heap n0 Z_223 Q90_0 (by decide) (hai _)) hZ (hw _ (List.mem_of_getElem? (i := 13) rfl)) (hw _ (List.mem_of_getElem? (i := 4) rfl)) (by decide) (by decide)) (g := (mkF m 550 #[.val (.long q0), .second, .val (.int p1), .val (.int p2), .val (.int p3), .val (.long vv), .second, .val (.int off), .val (.int sb), .val (.ref b5), .val (.int nn), .val (.int r91), .val (.int v209_0)] [(.int sb), (.long vv), (.int nn), (.int off), (.int (11 : Int32)), (.ref b5)])) rfl (by rw [hml]; rfl) (argsL := [(.ref b5), (.int (11 : Int32)), (.int off), (.int nn), (.long vv), (.int sb)]) (rest := []) (lenOf pd_2 rfl) rfl (by show 2 * 0 + _ ≤ _; exact Nat.le_of_eq rfl) (hb hby at_550) (fun _ _ => ⟨rfl, e209, (by decide : 1 + 0 ≤ _), (by decide : 16 + 0 ≤ _)⟩)
      dsimp only [Pt.U, Pt.locs, Pt.cells, Pt.slots] at X224 l224 y224 z224 st224 hQ224
      subst l224 y224 z224
      obtain ⟨rfl, N224, eh224⟩ := hQ224
      have N224' := Fr.app N209 N224
      obtain ⟨Lg224, Xg224, Ng224⟩ : ∃ Lg, Stand p l e room_1 s m #[(.long q0), (.int p1), (.int p2), (.int p3)] below meth c T224 Lg 1 16 ∧ Fr n0 Lg := ⟨_, X224, N224'⟩
      have K226 : Steps p.tables e below _ (T224.setTop (mkF m 553 #[.val (.long q0), .second, .val (.int p1), .val (.int p2), .val (.int p3), .val (.long vv), .second, .val (.int off), .val (.int sb), .val (.ref b5), .val (.int nn), .val (.int r91), .val (.int v209_0)] [(.int (f_rm3 (11 : Int32) off nn vv sb (own_by vsx (11 : Int32))))])) := K222.trans (st224 _ (Steps.refl _))
      obtain ⟨r225, hr225⟩ : ∃ z : Int32, (f_rm3 (11 : Int32) off nn vv sb (own_by vsx (11 : Int32))) = z := ⟨_, rfl⟩
      rw [hr225] at K226
      by_cases hc553 : r225 = (0 : Int32)
      · have K227 : Steps p.tables e below _ (T224.setTop (mkF m 561 #[.val (.long q0), .second, .val (.int p1), .val (.int p2), .val (.int p3), .val (.long vv), .second, .val (.int off), .val (.int sb), .val (.ref b5), .val (.int nn), .val (.int r91), .val (.int v209_0)] [(.int (0 : Int32))])) := K226.trans (by
          refine XS.ifYes Xg224.here hx rfl (pc0 := 553) (pc' := 560) rfl (hb hby at_553) rfl ((if0 _ _).trans (teq hc553).1) (by decide) (by decide) ?_
          refine XS.iconst Xg224.here hx rfl (hb hby at_560) ?_
          exact Steps.refl _)
        subst hr225
        exact ⟨T224, _, (0 : Int32), Xg224, eh224, Ng224, (by rw [if_neg hc535, if_pos hc553]), K227⟩
      · have K228 : Steps p.tables e below _ (T224.setTop (mkF m 561 #[.val (.long q0), .second, .val (.int p1), .val (.int p2), .val (.int p3), .val (.long vv), .second, .val (.int off), .val (.int sb), .val (.ref b5), .val (.int nn), .val (.int r91), .val (.int v209_0)] [(.int (1 : Int32))])) := K226.trans (by
          refine XS.ifNo Xg224.here hx rfl (hb hby at_553) rfl ((if0 _ _).trans (feq hc553).1) ?_
          refine XS.iconst Xg224.here hx rfl (hb hby at_556) ?_
          refine XS.goto Xg224.here hx rfl (pc0 := 557) (pc' := 561) rfl (hb hby at_557) (by decide) (by decide) ?_
          exact Steps.refl _)
        subst hr225
        exact ⟨T224, _, (1 : Int32), Xg224, eh224, Ng224, (by rw [if_neg hc535, if_neg hc553]), K228⟩
  have K229 := K219.trans S220
  have K230 : Steps p.tables e below _ (T220.setTop (mkF m 565 #[.val (.long q0), .second, .val (.int p1), .val (.int p2), .val (.int p3), .val (.long vv), .second, .val (.int off), .val (.int sb), .val (.ref b5), .val (.int nn), .val (.int r91), .val (.int v220_0)] [(.int v220_0)])) := K229.trans (by
    refine XS.istore X220.here hx rfl (hb hby at_561) rfl (l' := #[.val (.long q0), .second, .val (.int p1), .val (.int p2), .val (.int p3), .val (.long vv), .second, .val (.int off), .val (.int sb), .val (.ref b5), .val (.int nn), .val (.int r91), .val (.int v220_0)]) rfl ?_
    refine XS.iload X220.here hx rfl (hb hby at_563) rfl ?_
    exact Steps.refl _)
  obtain ⟨T231, L231, v231_0, X231, e231, N231, hv231_0, S231⟩ : ∃ (T231 : State) (L231 : List Loc) (v231_0 : Int32), Stand p l e room_1 s m #[(.long q0), (.int p1), (.int p2), (.int p3)] below meth c T231 L231 1 16 ∧ T231.heap = T90.heap ∧ Fr n0 L231 ∧ (if v220_0 = (0 : Int32) then (0 : Int32) else (if (f_rm3 (12 : Int32) off nn vv sb (own_by vsx (12 : Int32))) = (0 : Int32) then (0 : Int32) else (1 : Int32))) = v231_0 ∧ Steps p.tables e below (T220.setTop (mkF m 565 #[.val (.long q0), .second, .val (.int p1), .val (.int p2), .val (.int p3), .val (.long vv), .second, .val (.int off), .val (.int sb), .val (.ref b5), .val (.int nn), .val (.int r91), .val (.int v220_0)] [(.int v220_0)])) (T231.setTop (mkF m 591 #[.val (.long q0), .second, .val (.int p1), .val (.int p2), .val (.int p3), .val (.long vv), .second, .val (.int off), .val (.int sb), .val (.ref b5), .val (.int nn), .val (.int r91), .val (.int v220_0)] [(.int v231_0)])) := by
    have R231 := Steps.refl (tb := p.tables) (e := e) (below := below) (T220.setTop (mkF m 565 #[.val (.long q0), .second, .val (.int p1), .val (.int p2), .val (.int p3), .val (.long vv), .second, .val (.int off), .val (.int sb), .val (.ref b5), .val (.int nn), .val (.int r91), .val (.int v220_0)] [(.int v220_0)]))
    by_cases hc565 : v220_0 = (0 : Int32)
    · have K232 : Steps p.tables e below _ (T220.setTop (mkF m 591 #[.val (.long q0), .second, .val (.int p1), .val (.int p2), .val (.int p3), .val (.long vv), .second, .val (.int off), .val (.int sb), .val (.ref b5), .val (.int nn), .val (.int r91), .val (.int v220_0)] [(.int (0 : Int32))])) := R231.trans (by
        refine XS.ifYes X220.here hx rfl (pc0 := 565) (pc' := 590) rfl (hb hby at_565) rfl ((if0 _ _).trans (teq hc565).1) (by decide) (by decide) ?_
        refine XS.iconst X220.here hx rfl (hb hby at_590) ?_
        exact Steps.refl _)
      exact ⟨T220, _, (0 : Int32), X220, e220, N220, (by rw [if_pos hc565]), K232⟩
    · have K233 : Steps p.tables e below _ (T220.setTop (mkF m 580 #[.val (.long q0), .second, .val (.int p1), .val (.int p2), .val (.int p3), .val (.long vv), .second, .val (.int off), .val (.int sb), .val (.ref b5), .val (.int nn), .val (.int r91), .val (.int v220_0)] [(.int sb), (.long vv), (.int nn), (.int off), (.int (12 : Int32)), (.ref b5)])) := R231.trans (by
        refine XS.ifNo X220.here hx rfl (hb hby at_565) rfl ((if0 _ _).trans (feq hc565).1) ?_
        refine XS.aload X220.here hx rfl (hb hby at_568) rfl rfl ?_
        refine XS.bipush X220.here hx rfl (hb hby at_570) ?_
        refine XS.iload X220.here hx rfl (hb hby at_572) rfl ?_
        refine XS.iload X220.here hx rfl (hb hby at_574) rfl ?_
        show Steps p.tables e below (T220.setTop (mkF m 576 #[.val (.long q0), .second, .val (.int p1), .val (.int p2), .val (.int p3), .val (.long vv), .second, .val (.int off), .val (.int sb), .val (.ref b5), .val (.int nn), .val (.int r91), .val (.int v220_0)] [(.int nn), (.int off), (.int (12 : Int32)), (.ref b5)])) _
        refine XS.lload X220.here hx rfl (hb hby at_576) rfl ?_
        refine XS.iload X220.here hx rfl (hb hby at_578) rfl ?_
        exact Steps.refl _)
      have Z_234 : n0 ≤ T90.heap.size := (Nat.le_trans Z_56 Kp90.1)
      obtain ⟨_, _, ⟨T235, L235, k235, n235⟩, -, X235, ⟨Lc235, hQ235, l235, y235, z235⟩, st235⟩ := Jvm.LawKit.callS X220 hx (y := (⟨"com/example/windward/windward/storage/VarIntsWritePinLaw", "at", "([BIIIJB)Z"⟩ : MethodName)) hown (mvT hZ (hw _ (List.mem_of_getElem? (i := 11) rfl))) (mvT hZ (hw _ (List.mem_of_getElem? (i := 12) rfl))) (mvT hZ (hw _ (List.mem_of_getElem? (i := 4) rfl))) (mvT hZ (hw _ (List.mem_of_getElem? (i := 13) rfl))) (by decide) (backOf (W := 0) (rm3 l Z a0 hw [] b5 (12 : Int32) off nn vv sb k5 vsx (own_by vsx (12 : Int32)) T90.heap n0 Z_234 Q90_0 (by decide) (hai _)) hZ (hw _ (List.mem_of_getElem? (i := 13) rfl)) (hw _ (List.mem_of_getElem? (i := 4) rfl)) (by decide) (by decide)) (g := (mkF m 580 #[.val (.long q0), .second, .val (.int p1), .val (.int p2), .val (.int p3), .val (.long vv), .second, .val (.int off), .val (.int sb), .val (.ref b5), .val (.int nn), .val (.int r91), .val (.int v220_0)] [(.int sb), (.long vv), (.int nn), (.int off), (.int (12 : Int32)), (.ref b5)])) rfl (by rw [hml]; rfl) (argsL := [(.ref b5), (.int (12 : Int32)), (.int off), (.int nn), (.long vv), (.int sb)]) (rest := []) (lenOf pd_2 rfl) rfl (by show 2 * 0 + _ ≤ _; exact Nat.le_of_eq rfl) (hb hby at_580) (fun _ _ => ⟨rfl, e220, (by decide : 1 + 0 ≤ _), (by decide : 16 + 0 ≤ _)⟩)
      dsimp only [Pt.U, Pt.locs, Pt.cells, Pt.slots] at X235 l235 y235 z235 st235 hQ235
      subst l235 y235 z235
      obtain ⟨rfl, N235, eh235⟩ := hQ235
      have N235' := Fr.app N220 N235
      obtain ⟨Lg235, Xg235, Ng235⟩ : ∃ Lg, Stand p l e room_1 s m #[(.long q0), (.int p1), (.int p2), (.int p3)] below meth c T235 Lg 1 16 ∧ Fr n0 Lg := ⟨_, X235, N235'⟩
      have K237 : Steps p.tables e below _ (T235.setTop (mkF m 583 #[.val (.long q0), .second, .val (.int p1), .val (.int p2), .val (.int p3), .val (.long vv), .second, .val (.int off), .val (.int sb), .val (.ref b5), .val (.int nn), .val (.int r91), .val (.int v220_0)] [(.int (f_rm3 (12 : Int32) off nn vv sb (own_by vsx (12 : Int32))))])) := K233.trans (st235 _ (Steps.refl _))
      obtain ⟨r236, hr236⟩ : ∃ z : Int32, (f_rm3 (12 : Int32) off nn vv sb (own_by vsx (12 : Int32))) = z := ⟨_, rfl⟩
      rw [hr236] at K237
      by_cases hc583 : r236 = (0 : Int32)
      · have K238 : Steps p.tables e below _ (T235.setTop (mkF m 591 #[.val (.long q0), .second, .val (.int p1), .val (.int p2), .val (.int p3), .val (.long vv), .second, .val (.int off), .val (.int sb), .val (.ref b5), .val (.int nn), .val (.int r91), .val (.int v220_0)] [(.int (0 : Int32))])) := K237.trans (by
          refine XS.ifYes Xg235.here hx rfl (pc0 := 583) (pc' := 590) rfl (hb hby at_583) rfl ((if0 _ _).trans (teq hc583).1) (by decide) (by decide) ?_
          refine XS.iconst Xg235.here hx rfl (hb hby at_590) ?_
          exact Steps.refl _)
        subst hr236
        exact ⟨T235, _, (0 : Int32), Xg235, eh235, Ng235, (by rw [if_neg hc565, if_pos hc583]), K238⟩
      · have K239 : Steps p.tables e below _ (T235.setTop (mkF m 591 #[.val (.long q0), .second, .val (.int p1), .val (.int p2), .val (.int p3), .val (.long vv), .second, .val (.int off), .val (.int sb), .val (.ref b5), .val (.int nn), .val (.int r91), .val (.int v220_0)] [(.int (1 : Int32))])) := K237.trans (by
          refine XS.ifNo Xg235.here hx rfl (hb hby at_583) rfl ((if0 _ _).trans (feq hc583).1) ?_
          refine XS.iconst Xg235.here hx rfl (hb hby at_586) ?_
          refine XS.goto Xg235.here hx rfl (pc0 := 587) (pc' := 591) rfl (hb hby at_587) (by decide) (by decide) ?_
          exact Steps.refl _)
        subst hr236
        exact ⟨T235, _, (1 : Int32), Xg235, eh235, Ng235, (by rw [if_neg hc565, if_neg hc583]), K239⟩
  have K240 := K230.trans S231
  have K241 : Steps p.tables e below _ (T231.setTop (mkF m 595 #[.val (.long q0), .second, .val (.int p1), .val (.int p2), .val (.int p3), .val (.long vv), .second, .val (.int off), .val (.int sb), .val (.ref b5), .val (.int nn), .val (.int r91), .val (.int v231_0)] [(.int v231_0)])) := K240.trans (by
    refine XS.istore X231.here hx rfl (hb hby at_591) rfl (l' := #[.val (.long q0), .second, .val (.int p1), .val (.int p2), .val (.int p3), .val (.long vv), .second, .val (.int off), .val (.int sb), .val (.ref b5), .val (.int nn), .val (.int r91), .val (.int v231_0)]) rfl ?_
    refine XS.iload X231.here hx rfl (hb hby at_593) rfl ?_
    exact Steps.refl _)
  obtain ⟨T242, L242, v242_0, X242, e242, N242, hv242_0, S242⟩ : ∃ (T242 : State) (L242 : List Loc) (v242_0 : Int32), Stand p l e room_1 s m #[(.long q0), (.int p1), (.int p2), (.int p3)] below meth c T242 L242 1 16 ∧ T242.heap = T90.heap ∧ Fr n0 L242 ∧ (if v231_0 = (0 : Int32) then (0 : Int32) else (if (f_rm3 (13 : Int32) off nn vv sb (own_by vsx (13 : Int32))) = (0 : Int32) then (0 : Int32) else (1 : Int32))) = v242_0 ∧ Steps p.tables e below (T231.setTop (mkF m 595 #[.val (.long q0), .second, .val (.int p1), .val (.int p2), .val (.int p3), .val (.long vv), .second, .val (.int off), .val (.int sb), .val (.ref b5), .val (.int nn), .val (.int r91), .val (.int v231_0)] [(.int v231_0)])) (T242.setTop (mkF m 621 #[.val (.long q0), .second, .val (.int p1), .val (.int p2), .val (.int p3), .val (.long vv), .second, .val (.int off), .val (.int sb), .val (.ref b5), .val (.int nn), .val (.int r91), .val (.int v231_0)] [(.int v242_0)])) := by
    have R242 := Steps.refl (tb := p.tables) (e := e) (below := below) (T231.setTop (mkF m 595 #[.val (.long q0), .second, .val (.int p1), .val (.int p2), .val (.int p3), .val (.long vv), .second, .val (.int off), .val (.int sb), .val (.ref b5), .val (.int nn), .val (.int r91), .val (.int v231_0)] [(.int v231_0)]))
    by_cases hc595 : v231_0 = (0 : Int32)
    · have K243 : Steps p.tables e below _ (T231.setTop (mkF m 621 #[.val (.long q0), .second, .val (.int p1), .val (.int p2), .val (.int p3), .val (.long vv), .second, .val (.int off), .val (.int sb), .val (.ref b5), .val (.int nn), .val (.int r91), .val (.int v231_0)] [(.int (0 : Int32))])) := R242.trans (by
        refine XS.ifYes X231.here hx rfl (pc0 := 595) (pc' := 620) rfl (hb hby at_595) rfl ((if0 _ _).trans (teq hc595).1) (by decide) (by decide) ?_
        refine XS.iconst X231.here hx rfl (hb hby at_620) ?_
        exact Steps.refl _)
      exact ⟨T231, _, (0 : Int32), X231, e231, N231, (by rw [if_pos hc595]), K243⟩
    · have K244 : Steps p.tables e below _ (T231.setTop (mkF m 610 #[.val (.long q0), .second, .val (.int p1), .val (.int p2), .val (.int p3), .val (.long vv), .second, .val (.int off), .val (.int sb), .val (.ref b5), .val (.int nn), .val (.int r91), .val (.int v231_0)] [(.int sb), (.long vv), (.int nn), (.int off), (.int (13 : Int32)), (.ref b5)])) := R242.trans (by
        refine XS.ifNo X231.here hx rfl (hb hby at_595) rfl ((if0 _ _).trans (feq hc595).1) ?_
        refine XS.aload X231.here hx rfl (hb hby at_598) rfl rfl ?_
        refine XS.bipush X231.here hx rfl (hb hby at_600) ?_
        refine XS.iload X231.here hx rfl (hb hby at_602) rfl ?_
        refine XS.iload X231.here hx rfl (hb hby at_604) rfl ?_
        show Steps p.tables e below (T231.setTop (mkF m 606 #[.val (.long q0), .second, .val (.int p1), .val (.int p2), .val (.int p3), .val (.long vv), .second, .val (.int off), .val (.int sb), .val (.ref b5), .val (.int nn), .val (.int r91), .val (.int v231_0)] [(.int nn), (.int off), (.int (13 : Int32)), (.ref b5)])) _
        refine XS.lload X231.here hx rfl (hb hby at_606) rfl ?_
        refine XS.iload X231.here hx rfl (hb hby at_608) rfl ?_
        exact Steps.refl _)
      have Z_245 : n0 ≤ T90.heap.size := (Nat.le_trans Z_56 Kp90.1)
      obtain ⟨_, _, ⟨T246, L246, k246, n246⟩, -, X246, ⟨Lc246, hQ246, l246, y246, z246⟩, st246⟩ := Jvm.LawKit.callS X231 hx (y := (⟨"com/example/windward/windward/storage/VarIntsWritePinLaw", "at", "([BIIIJB)Z"⟩ : MethodName)) hown (mvT hZ (hw _ (List.mem_of_getElem? (i := 11) rfl))) (mvT hZ (hw _ (List.mem_of_getElem? (i := 12) rfl))) (mvT hZ (hw _ (List.mem_of_getElem? (i := 4) rfl))) (mvT hZ (hw _ (List.mem_of_getElem? (i := 13) rfl))) (by decide) (backOf (W := 0) (rm3 l Z a0 hw [] b5 (13 : Int32) off nn vv sb k5 vsx (own_by vsx (13 : Int32)) T90.heap n0 Z_245 Q90_0 (by decide) (hai _)) hZ (hw _ (List.mem_of_getElem? (i := 13) rfl)) (hw _ (List.mem_of_getElem? (i := 4) rfl)) (by decide) (by decide)) (g := (mkF m 610 #[.val (.long q0), .second, .val (.int p1), .val (.int p2), .val (.int p3), .val (.long vv), .second, .val (.int off), .val (.int sb), .val (.ref b5), .val (.int nn), .val (.int r91), .val (.int v231_0)] [(.int sb), (.long vv), (.int nn), (.int off), (.int (13 : Int32)), (.ref b5)])) rfl (by rw [hml]; rfl) (argsL := [(.ref b5), (.int (13 : Int32)), (.int off), (.int nn), (.long vv), (.int sb)]) (rest := []) (lenOf pd_2 rfl) rfl (by show 2 * 0 + _ ≤ _; exact Nat.le_of_eq rfl) (hb hby at_610) (fun _ _ => ⟨rfl, e231, (by decide : 1 + 0 ≤ _), (by decide : 16 + 0 ≤ _)⟩)
      dsimp only [Pt.U, Pt.locs, Pt.cells, Pt.slots] at X246 l246 y246 z246 st246 hQ246
      subst l246 y246 z246
      obtain ⟨rfl, N246, eh246⟩ := hQ246
      have N246' := Fr.app N231 N246
      obtain ⟨Lg246, Xg246, Ng246⟩ : ∃ Lg, Stand p l e room_1 s m #[(.long q0), (.int p1), (.int p2), (.int p3)] below meth c T246 Lg 1 16 ∧ Fr n0 Lg := ⟨_, X246, N246'⟩
      have K248 : Steps p.tables e below _ (T246.setTop (mkF m 613 #[.val (.long q0), .second, .val (.int p1), .val (.int p2), .val (.int p3), .val (.long vv), .second, .val (.int off), .val (.int sb), .val (.ref b5), .val (.int nn), .val (.int r91), .val (.int v231_0)] [(.int (f_rm3 (13 : Int32) off nn vv sb (own_by vsx (13 : Int32))))])) := K244.trans (st246 _ (Steps.refl _))
      obtain ⟨r247, hr247⟩ : ∃ z : Int32, (f_rm3 (13 : Int32) off nn vv sb (own_by vsx (13 : Int32))) = z := ⟨_, rfl⟩
      rw [hr247] at K248
      by_cases hc613 : r247 = (0 : Int32)
      · have K249 : Steps p.tables e below _ (T246.setTop (mkF m 621 #[.val (.long q0), .second, .val (.int p1), .val (.int p2), .val (.int p3), .val (.long vv), .second, .val (.int off), .val (.int sb), .val (.ref b5), .val (.int nn), .val (.int r91), .val (.int v231_0)] [(.int (0 : Int32))])) := K248.trans (by
          refine XS.ifYes Xg246.here hx rfl (pc0 := 613) (pc' := 620) rfl (hb hby at_613) rfl ((if0 _ _).trans (teq hc613).1) (by decide) (by decide) ?_
          refine XS.iconst Xg246.here hx rfl (hb hby at_620) ?_
          exact Steps.refl _)
        subst hr247
        exact ⟨T246, _, (0 : Int32), Xg246, eh246, Ng246, (by rw [if_neg hc595, if_pos hc613]), K249⟩
      · have K250 : Steps p.tables e below _ (T246.setTop (mkF m 621 #[.val (.long q0), .second, .val (.int p1), .val (.int p2), .val (.int p3), .val (.long vv), .second, .val (.int off), .val (.int sb), .val (.ref b5), .val (.int nn), .val (.int r91), .val (.int v231_0)] [(.int (1 : Int32))])) := K248.trans (by
          refine XS.ifNo Xg246.here hx rfl (hb hby at_613) rfl ((if0 _ _).trans (feq hc613).1) ?_
          refine XS.iconst Xg246.here hx rfl (hb hby at_616) ?_
          refine XS.goto Xg246.here hx rfl (pc0 := 617) (pc' := 621) rfl (hb hby at_617) (by decide) (by decide) ?_
          exact Steps.refl _)
        subst hr247
        exact ⟨T246, _, (1 : Int32), Xg246, eh246, Ng246, (by rw [if_neg hc595, if_neg hc613]), K250⟩
  have K251 := K241.trans S242
  have K252 : Steps p.tables e below _ (T242.setTop (mkF m 625 #[.val (.long q0), .second, .val (.int p1), .val (.int p2), .val (.int p3), .val (.long vv), .second, .val (.int off), .val (.int sb), .val (.ref b5), .val (.int nn), .val (.int r91), .val (.int v242_0)] [(.int v242_0)])) := K251.trans (by
    refine XS.istore X242.here hx rfl (hb hby at_621) rfl (l' := #[.val (.long q0), .second, .val (.int p1), .val (.int p2), .val (.int p3), .val (.long vv), .second, .val (.int off), .val (.int sb), .val (.ref b5), .val (.int nn), .val (.int r91), .val (.int v242_0)]) rfl ?_
    refine XS.iload X242.here hx rfl (hb hby at_623) rfl ?_
    exact Steps.refl _)
  obtain ⟨T253, L253, v253_0, X253, e253, N253, hv253_0, S253⟩ : ∃ (T253 : State) (L253 : List Loc) (v253_0 : Int32), Stand p l e room_1 s m #[(.long q0), (.int p1), (.int p2), (.int p3)] below meth c T253 L253 1 16 ∧ T253.heap = T90.heap ∧ Fr n0 L253 ∧ (if v242_0 = (0 : Int32) then (0 : Int32) else (if (f_rm3 (14 : Int32) off nn vv sb (own_by vsx (14 : Int32))) = (0 : Int32) then (0 : Int32) else (1 : Int32))) = v253_0 ∧ Steps p.tables e below (T242.setTop (mkF m 625 #[.val (.long q0), .second, .val (.int p1), .val (.int p2), .val (.int p3), .val (.long vv), .second, .val (.int off), .val (.int sb), .val (.ref b5), .val (.int nn), .val (.int r91), .val (.int v242_0)] [(.int v242_0)])) (T253.setTop (mkF m 651 #[.val (.long q0), .second, .val (.int p1), .val (.int p2), .val (.int p3), .val (.long vv), .second, .val (.int off), .val (.int sb), .val (.ref b5), .val (.int nn), .val (.int r91), .val (.int v242_0)] [(.int v253_0)])) := by
    have R253 := Steps.refl (tb := p.tables) (e := e) (below := below) (T242.setTop (mkF m 625 #[.val (.long q0), .second, .val (.int p1), .val (.int p2), .val (.int p3), .val (.long vv), .second, .val (.int off), .val (.int sb), .val (.ref b5), .val (.int nn), .val (.int r91), .val (.int v242_0)] [(.int v242_0)]))
    by_cases hc625 : v242_0 = (0 : Int32)
    · have K254 : Steps p.tables e below _ (T242.setTop (mkF m 651 #[.val (.long q0), .second, .val (.int p1), .val (.int p2), .val (.int p3), .val (.long vv), .second, .val (.int off), .val (.int sb), .val (.ref b5), .val (.int nn), .val (.int r91), .val (.int v242_0)] [(.int (0 : Int32))])) := R253.trans (by
        refine XS.ifYes X242.here hx rfl (pc0 := 625) (pc' := 650) rfl (hb hby at_625) rfl ((if0 _ _).trans (teq hc625).1) (by decide) (by decide) ?_
        refine XS.iconst X242.here hx rfl (hb hby at_650) ?_
        exact Steps.refl _)
      exact ⟨T242, _, (0 : Int32), X242, e242, N242, (by rw [if_pos hc625]), K254⟩
    · have K255 : Steps p.tables e below _ (T242.setTop (mkF m 640 #[.val (.long q0), .second, .val (.int p1), .val (.int p2), .val (.int p3), .val (.long vv), .second, .val (.int off), .val (.int sb), .val (.ref b5), .val (.int nn), .val (.int r91), .val (.int v242_0)] [(.int sb), (.long vv), (.int nn), (.int off), (.int (14 : Int32)), (.ref b5)])) := R253.trans (by
        refine XS.ifNo X242.here hx rfl (hb hby at_625) rfl ((if0 _ _).trans (feq hc625).1) ?_
        refine XS.aload X242.here hx rfl (hb hby at_628) rfl rfl ?_
        refine XS.bipush X242.here hx rfl (hb hby at_630) ?_
        refine XS.iload X242.here hx rfl (hb hby at_632) rfl ?_
        refine XS.iload X242.here hx rfl (hb hby at_634) rfl ?_
        show Steps p.tables e below (T242.setTop (mkF m 636 #[.val (.long q0), .second, .val (.int p1), .val (.int p2), .val (.int p3), .val (.long vv), .second, .val (.int off), .val (.int sb), .val (.ref b5), .val (.int nn), .val (.int r91), .val (.int v242_0)] [(.int nn), (.int off), (.int (14 : Int32)), (.ref b5)])) _
        refine XS.lload X242.here hx rfl (hb hby at_636) rfl ?_
        refine XS.iload X242.here hx rfl (hb hby at_638) rfl ?_
        exact Steps.refl _)
      have Z_256 : n0 ≤ T90.heap.size := (Nat.le_trans Z_56 Kp90.1)
      obtain ⟨_, _, ⟨T257, L257, k257, n257⟩, -, X257, ⟨Lc257, hQ257, l257, y257, z257⟩, st257⟩ := Jvm.LawKit.callS X242 hx (y := (⟨"com/example/windward/windward/storage/VarIntsWritePinLaw", "at", "([BIIIJB)Z"⟩ : MethodName)) hown (mvT hZ (hw _ (List.mem_of_getElem? (i := 11) rfl))) (mvT hZ (hw _ (List.mem_of_getElem? (i := 12) rfl))) (mvT hZ (hw _ (List.mem_of_getElem? (i := 4) rfl))) (mvT hZ (hw _ (List.mem_of_getElem? (i := 13) rfl))) (by decide) (backOf (W := 0) (rm3 l Z a0 hw [] b5 (14 : Int32) off nn vv sb k5 vsx (own_by vsx (14 : Int32)) T90.heap n0 Z_256 Q90_0 (by decide) (hai _)) hZ (hw _ (List.mem_of_getElem? (i := 13) rfl)) (hw _ (List.mem_of_getElem? (i := 4) rfl)) (by decide) (by decide)) (g := (mkF m 640 #[.val (.long q0), .second, .val (.int p1), .val (.int p2), .val (.int p3), .val (.long vv), .second, .val (.int off), .val (.int sb), .val (.ref b5), .val (.int nn), .val (.int r91), .val (.int v242_0)] [(.int sb), (.long vv), (.int nn), (.int off), (.int (14 : Int32)), (.ref b5)])) rfl (by rw [hml]; rfl) (argsL := [(.ref b5), (.int (14 : Int32)), (.int off), (.int nn), (.long vv), (.int sb)]) (rest := []) (lenOf pd_2 rfl) rfl (by show 2 * 0 + _ ≤ _; exact Nat.le_of_eq rfl) (hb hby at_640) (fun _ _ => ⟨rfl, e242, (by decide : 1 + 0 ≤ _), (by decide : 16 + 0 ≤ _)⟩)
      dsimp only [Pt.U, Pt.locs, Pt.cells, Pt.slots] at X257 l257 y257 z257 st257 hQ257
      subst l257 y257 z257
      obtain ⟨rfl, N257, eh257⟩ := hQ257
      have N257' := Fr.app N242 N257
      obtain ⟨Lg257, Xg257, Ng257⟩ : ∃ Lg, Stand p l e room_1 s m #[(.long q0), (.int p1), (.int p2), (.int p3)] below meth c T257 Lg 1 16 ∧ Fr n0 Lg := ⟨_, X257, N257'⟩
      have K259 : Steps p.tables e below _ (T257.setTop (mkF m 643 #[.val (.long q0), .second, .val (.int p1), .val (.int p2), .val (.int p3), .val (.long vv), .second, .val (.int off), .val (.int sb), .val (.ref b5), .val (.int nn), .val (.int r91), .val (.int v242_0)] [(.int (f_rm3 (14 : Int32) off nn vv sb (own_by vsx (14 : Int32))))])) := K255.trans (st257 _ (Steps.refl _))
      obtain ⟨r258, hr258⟩ : ∃ z : Int32, (f_rm3 (14 : Int32) off nn vv sb (own_by vsx (14 : Int32))) = z := ⟨_, rfl⟩
      rw [hr258] at K259
      by_cases hc643 : r258 = (0 : Int32)
      · have K260 : Steps p.tables e below _ (T257.setTop (mkF m 651 #[.val (.long q0), .second, .val (.int p1), .val (.int p2), .val (.int p3), .val (.long vv), .second, .val (.int off), .val (.int sb), .val (.ref b5), .val (.int nn), .val (.int r91), .val (.int v242_0)] [(.int (0 : Int32))])) := K259.trans (by
          refine XS.ifYes Xg257.here hx rfl (pc0 := 643) (pc' := 650) rfl (hb hby at_643) rfl ((if0 _ _).trans (teq hc643).1) (by decide) (by decide) ?_
          refine XS.iconst Xg257.here hx rfl (hb hby at_650) ?_
          exact Steps.refl _)
        subst hr258
        exact ⟨T257, _, (0 : Int32), Xg257, eh257, Ng257, (by rw [if_neg hc625, if_pos hc643]), K260⟩
      · have K261 : Steps p.tables e below _ (T257.setTop (mkF m 651 #[.val (.long q0), .second, .val (.int p1), .val (.int p2), .val (.int p3), .val (.long vv), .second, .val (.int off), .val (.int sb), .val (.ref b5), .val (.int nn), .val (.int r91), .val (.int v242_0)] [(.int (1 : Int32))])) := K259.trans (by
          refine XS.ifNo Xg257.here hx rfl (hb hby at_643) rfl ((if0 _ _).trans (feq hc643).1) ?_
          refine XS.iconst Xg257.here hx rfl (hb hby at_646) ?_
          refine XS.goto Xg257.here hx rfl (pc0 := 647) (pc' := 651) rfl (hb hby at_647) (by decide) (by decide) ?_
          exact Steps.refl _)
        subst hr258
        exact ⟨T257, _, (1 : Int32), Xg257, eh257, Ng257, (by rw [if_neg hc625, if_neg hc643]), K261⟩
  have K262 := K252.trans S253
  have K263 : Steps p.tables e below _ (T253.setTop (mkF m 655 #[.val (.long q0), .second, .val (.int p1), .val (.int p2), .val (.int p3), .val (.long vv), .second, .val (.int off), .val (.int sb), .val (.ref b5), .val (.int nn), .val (.int r91), .val (.int v253_0)] [(.int v253_0)])) := K262.trans (by
    refine XS.istore X253.here hx rfl (hb hby at_651) rfl (l' := #[.val (.long q0), .second, .val (.int p1), .val (.int p2), .val (.int p3), .val (.long vv), .second, .val (.int off), .val (.int sb), .val (.ref b5), .val (.int nn), .val (.int r91), .val (.int v253_0)]) rfl ?_
    refine XS.iload X253.here hx rfl (hb hby at_653) rfl ?_
    exact Steps.refl _)
  obtain ⟨T264, L264, v264_0, X264, e264, N264, hv264_0, S264⟩ : ∃ (T264 : State) (L264 : List Loc) (v264_0 : Int32), Stand p l e room_1 s m #[(.long q0), (.int p1), (.int p2), (.int p3)] below meth c T264 L264 1 16 ∧ T264.heap = T90.heap ∧ Fr n0 L264 ∧ (if v253_0 = (0 : Int32) then (0 : Int32) else (if (f_rm3 (15 : Int32) off nn vv sb (own_by vsx (15 : Int32))) = (0 : Int32) then (0 : Int32) else (1 : Int32))) = v264_0 ∧ Steps p.tables e below (T253.setTop (mkF m 655 #[.val (.long q0), .second, .val (.int p1), .val (.int p2), .val (.int p3), .val (.long vv), .second, .val (.int off), .val (.int sb), .val (.ref b5), .val (.int nn), .val (.int r91), .val (.int v253_0)] [(.int v253_0)])) (T264.setTop (mkF m 681 #[.val (.long q0), .second, .val (.int p1), .val (.int p2), .val (.int p3), .val (.long vv), .second, .val (.int off), .val (.int sb), .val (.ref b5), .val (.int nn), .val (.int r91), .val (.int v253_0)] [(.int v264_0)])) := by
    have R264 := Steps.refl (tb := p.tables) (e := e) (below := below) (T253.setTop (mkF m 655 #[.val (.long q0), .second, .val (.int p1), .val (.int p2), .val (.int p3), .val (.long vv), .second, .val (.int off), .val (.int sb), .val (.ref b5), .val (.int nn), .val (.int r91), .val (.int v253_0)] [(.int v253_0)]))
    by_cases hc655 : v253_0 = (0 : Int32)
    · have K265 : Steps p.tables e below _ (T253.setTop (mkF m 681 #[.val (.long q0), .second, .val (.int p1), .val (.int p2), .val (.int p3), .val (.long vv), .second, .val (.int off), .val (.int sb), .val (.ref b5), .val (.int nn), .val (.int r91), .val (.int v253_0)] [(.int (0 : Int32))])) := R264.trans (by
        refine XS.ifYes X253.here hx rfl (pc0 := 655) (pc' := 680) rfl (hb hby at_655) rfl ((if0 _ _).trans (teq hc655).1) (by decide) (by decide) ?_
        refine XS.iconst X253.here hx rfl (hb hby at_680) ?_
        exact Steps.refl _)
      exact ⟨T253, _, (0 : Int32), X253, e253, N253, (by rw [if_pos hc655]), K265⟩
    · have K266 : Steps p.tables e below _ (T253.setTop (mkF m 670 #[.val (.long q0), .second, .val (.int p1), .val (.int p2), .val (.int p3), .val (.long vv), .second, .val (.int off), .val (.int sb), .val (.ref b5), .val (.int nn), .val (.int r91), .val (.int v253_0)] [(.int sb), (.long vv), (.int nn), (.int off), (.int (15 : Int32)), (.ref b5)])) := R264.trans (by
        refine XS.ifNo X253.here hx rfl (hb hby at_655) rfl ((if0 _ _).trans (feq hc655).1) ?_
        refine XS.aload X253.here hx rfl (hb hby at_658) rfl rfl ?_
        refine XS.bipush X253.here hx rfl (hb hby at_660) ?_
        refine XS.iload X253.here hx rfl (hb hby at_662) rfl ?_
        refine XS.iload X253.here hx rfl (hb hby at_664) rfl ?_
        show Steps p.tables e below (T253.setTop (mkF m 666 #[.val (.long q0), .second, .val (.int p1), .val (.int p2), .val (.int p3), .val (.long vv), .second, .val (.int off), .val (.int sb), .val (.ref b5), .val (.int nn), .val (.int r91), .val (.int v253_0)] [(.int nn), (.int off), (.int (15 : Int32)), (.ref b5)])) _
        refine XS.lload X253.here hx rfl (hb hby at_666) rfl ?_
        refine XS.iload X253.here hx rfl (hb hby at_668) rfl ?_
        exact Steps.refl _)
      have Z_267 : n0 ≤ T90.heap.size := (Nat.le_trans Z_56 Kp90.1)
      obtain ⟨_, _, ⟨T268, L268, k268, n268⟩, -, X268, ⟨Lc268, hQ268, l268, y268, z268⟩, st268⟩ := Jvm.LawKit.callS X253 hx (y := (⟨"com/example/windward/windward/storage/VarIntsWritePinLaw", "at", "([BIIIJB)Z"⟩ : MethodName)) hown (mvT hZ (hw _ (List.mem_of_getElem? (i := 11) rfl))) (mvT hZ (hw _ (List.mem_of_getElem? (i := 12) rfl))) (mvT hZ (hw _ (List.mem_of_getElem? (i := 4) rfl))) (mvT hZ (hw _ (List.mem_of_getElem? (i := 13) rfl))) (by decide) (backOf (W := 0) (rm3 l Z a0 hw [] b5 (15 : Int32) off nn vv sb k5 vsx (own_by vsx (15 : Int32)) T90.heap n0 Z_267 Q90_0 (by decide) (hai _)) hZ (hw _ (List.mem_of_getElem? (i := 13) rfl)) (hw _ (List.mem_of_getElem? (i := 4) rfl)) (by decide) (by decide)) (g := (mkF m 670 #[.val (.long q0), .second, .val (.int p1), .val (.int p2), .val (.int p3), .val (.long vv), .second, .val (.int off), .val (.int sb), .val (.ref b5), .val (.int nn), .val (.int r91), .val (.int v253_0)] [(.int sb), (.long vv), (.int nn), (.int off), (.int (15 : Int32)), (.ref b5)])) rfl (by rw [hml]; rfl) (argsL := [(.ref b5), (.int (15 : Int32)), (.int off), (.int nn), (.long vv), (.int sb)]) (rest := []) (lenOf pd_2 rfl) rfl (by show 2 * 0 + _ ≤ _; exact Nat.le_of_eq rfl) (hb hby at_670) (fun _ _ => ⟨rfl, e253, (by decide : 1 + 0 ≤ _), (by decide : 16 + 0 ≤ _)⟩)
      dsimp only [Pt.U, Pt.locs, Pt.cells, Pt.slots] at X268 l268 y268 z268 st268 hQ268
      subst l268 y268 z268
      obtain ⟨rfl, N268, eh268⟩ := hQ268
      have N268' := Fr.app N253 N268
      obtain ⟨Lg268, Xg268, Ng268⟩ : ∃ Lg, Stand p l e room_1 s m #[(.long q0), (.int p1), (.int p2), (.int p3)] below meth c T268 Lg 1 16 ∧ Fr n0 Lg := ⟨_, X268, N268'⟩
      have K270 : Steps p.tables e below _ (T268.setTop (mkF m 673 #[.val (.long q0), .second, .val (.int p1), .val (.int p2), .val (.int p3), .val (.long vv), .second, .val (.int off), .val (.int sb), .val (.ref b5), .val (.int nn), .val (.int r91), .val (.int v253_0)] [(.int (f_rm3 (15 : Int32) off nn vv sb (own_by vsx (15 : Int32))))])) := K266.trans (st268 _ (Steps.refl _))
      obtain ⟨r269, hr269⟩ : ∃ z : Int32, (f_rm3 (15 : Int32) off nn vv sb (own_by vsx (15 : Int32))) = z := ⟨_, rfl⟩
      rw [hr269] at K270
      by_cases hc673 : r269 = (0 : Int32)
      · have K271 : Steps p.tables e below _ (T268.setTop (mkF m 681 #[.val (.long q0), .second, .val (.int p1), .val (.int p2), .val (.int p3), .val (.long vv), .second, .val (.int off), .val (.int sb), .val (.ref b5), .val (.int nn), .val (.int r91), .val (.int v253_0)] [(.int (0 : Int32))])) := K270.trans (by
          refine XS.ifYes Xg268.here hx rfl (pc0 := 673) (pc' := 680) rfl (hb hby at_673) rfl ((if0 _ _).trans (teq hc673).1) (by decide) (by decide) ?_
          refine XS.iconst Xg268.here hx rfl (hb hby at_680) ?_
          exact Steps.refl _)
        subst hr269
        exact ⟨T268, _, (0 : Int32), Xg268, eh268, Ng268, (by rw [if_neg hc655, if_pos hc673]), K271⟩
      · have K272 : Steps p.tables e below _ (T268.setTop (mkF m 681 #[.val (.long q0), .second, .val (.int p1), .val (.int p2), .val (.int p3), .val (.long vv), .second, .val (.int off), .val (.int sb), .val (.ref b5), .val (.int nn), .val (.int r91), .val (.int v253_0)] [(.int (1 : Int32))])) := K270.trans (by
          refine XS.ifNo Xg268.here hx rfl (hb hby at_673) rfl ((if0 _ _).trans (feq hc673).1) ?_
          refine XS.iconst Xg268.here hx rfl (hb hby at_676) ?_
          refine XS.goto Xg268.here hx rfl (pc0 := 677) (pc' := 681) rfl (hb hby at_677) (by decide) (by decide) ?_
          exact Steps.refl _)
        subst hr269
        exact ⟨T268, _, (1 : Int32), Xg268, eh268, Ng268, (by rw [if_neg hc655, if_neg hc673]), K272⟩
  have K273 := K263.trans S264
  have K274 : Steps p.tables e below _ (T264.setTop (mkF m 685 #[.val (.long q0), .second, .val (.int p1), .val (.int p2), .val (.int p3), .val (.long vv), .second, .val (.int off), .val (.int sb), .val (.ref b5), .val (.int nn), .val (.int r91), .val (.int v264_0)] [(.int v264_0)])) := K273.trans (by
    refine XS.istore X264.here hx rfl (hb hby at_681) rfl (l' := #[.val (.long q0), .second, .val (.int p1), .val (.int p2), .val (.int p3), .val (.long vv), .second, .val (.int off), .val (.int sb), .val (.ref b5), .val (.int nn), .val (.int r91), .val (.int v264_0)]) rfl ?_
    refine XS.iload X264.here hx rfl (hb hby at_683) rfl ?_
    exact Steps.refl _)
  have hone : (v264_0 &&& 1) = (1 : Int32) := own_law_0 q0 p1 p2 p3 vv off sb vs1 r58 r62 r66 r70 r74 r78 r82 r86 nn r91 vsx v94_0 v99_0 v110_0 v121_0 v132_0 v143_0 v154_0 v165_0 v176_0 v187_0 v198_0 v209_0 v220_0 v231_0 v242_0 v253_0 v264_0 hvv hoff hsb hvs1 hr58 hr62 hr66 hr70 hr74 hr78 hr82 hr86 hnn hr91 hvsx hv94_0 hv99_0 hv110_0 hv121_0 hv132_0 hv143_0 hv154_0 hv165_0 hv176_0 hv187_0 hv198_0 hv209_0 hv220_0 hv231_0 hv242_0 hv253_0 hv264_0
  obtain ⟨fs, hr, hrun, hended, hW, hsame⟩ := X264.leave (v := some (.int (v264_0 &&& 1))) (fun h => by rw [Bd.returns] at h; cases h)
  exact ⟨_, _, K274.trans (retN X264 hx (t := .boolean) Bd.returns (by simp) (hb hby at_685) hr), hrun, hended, _, _, rfl, ⟨by rw [hone], N264⟩, ⟨_, rfl⟩, hW, hsame.mono (by decide) (by decide)⟩
set_option maxRecDepth 65536 in
set_option maxHeartbeats 40000000 in
theorem comes_1 {Post : Tables → Env → Array Value → State → Outcome → State → Prop} (hpost : ∀ tb e args s v u, (limb_1_1.after args s (.returned v) u = true ∧ limb_1_2.after args s (.returned v) u = true ∧ True) → FrameEnd s (.returned v) u (Jvm.fieldLocs frame_1_writes args s ++ Jvm.arrayLocs frame_1_arrays args s ++ Jvm.staticLocs frame_1_statics s) 16 128 → Post tb e args s (.returned v) u) :
    ArmFor flags0 classFile x code maxLocals ret World_1 tables_1 room_1 Calls_1 rest_1 Pre_1 Post := by
  intro l hfl _ _ p e ha hc hk s m args below hf hA hF happ hP
  obtain ⟨hcalls, hrest, hpre⟩ := hP
  obtain ⟨-, -, -, hnamed, -, -, -, hat⟩ := (Spec.applies_iff hf).mp happ
  obtain ⟨hg, hn⟩ := and_e (Cond.before_iff.mp (show (Jvm.Cond.and given_1 narrow_1).before args s = true from hpre))
  obtain ⟨g1, g2⟩ := and_e hg
  obtain ⟨g3, g4⟩ := and_e g2
  obtain ⟨g5, g6⟩ := and_e g4
  obtain ⟨g7, g8⟩ := and_e g6
  obtain ⟨w0, w1, w2, w3, rfl⟩ : ∃ w0 w1 w2 w3 : Value, args = #[w0, w1, w2, w3] := by
    have hs : args.size = 4 := by simpa [Cond.value, given_1] using g1
    obtain ⟨L⟩ := args
    match L, hs with
    | [w0, w1, w2, w3], _ => exact ⟨w0, w1, w2, w3, rfl⟩
  have hw := fun d (hd : d ∈ tables_1) => atoms_spec (ws := Jvm.Cond.code x code maxLocals ret :: tables_1) hat d (List.mem_cons_of_mem _ hd)
  obtain ⟨i0, ei0⟩ := isL_v g3
  obtain rfl : w0 = (.long i0) := Option.some.inj ei0
  obtain ⟨i1, ei1⟩ := is_v g5
  obtain rfl : w1 = (.int i1) := Option.some.inj ei1
  obtain ⟨i2, ei2⟩ := is_v g7
  obtain rfl : w2 = (.int i2) := Option.some.inj ei2
  obtain ⟨i3, ei3⟩ := is_v g8
  obtain rfl : w3 = (.int i3) := Option.some.inj ei3
  obtain ⟨n, o, h1, h2, h3, _, L, rfl, ⟨rfl, N⟩, hq⟩ := rm0 l s _ hw tables_1 i0 i1 i2 i3 s.heap s.heap.size (Nat.le_refl _) p e ha hc hk s m _ below hf ((Spec.applies_iff_loose hf).mp happ).1 ⟨rfl, State.Warmed39.refl s, rfl⟩ trivial
  refine ⟨n, _, h1, h2, h3, hpost _ _ _ _ _ _ ⟨Cond.after_iff.mpr rfl, Cond.after_iff.mpr (eq_i res_at (Term.int_eval (1)) rfl), trivial⟩ ⟨hq.1, hq.2.1, (hq.2.2.sift fun y hy => Or.inr (N y hy)).mono (by decide) (by decide)⟩⟩
theorem main_1_1 : Claimed_1_1 := comes_1 fun _ _ _ _ _ _ h hF => ⟨h.1, hF⟩
theorem main_1_2 : Claimed_1_2 := comes_1 fun _ _ _ _ _ _ h hF => ⟨h.2.1, hF⟩
end Jvm.Pilot.@@N@@
namespace Jvm.Pilot.@@N@@
open Jvm Jvm.ClassFile Sem Op Lib Jvm.Free Jvm.Stand Jvm.Pilot.@@N@@.Jvm.D
/-! MADE BY PROGRAM (witnessworld.py) out of the Statement's table words and the real class files: 9 classes; the members and pool entries that the words name. The judged class is class 1, her method 1. -/
namespace start1
open Jvm.ClassFile
def u (s : String) : CpInfo := .utf8 (stringToUtf16 s)
/-- a pool by its gaps: so many unusable entries, then the entry; so many at the end -/
def gap : Nat → List CpInfo → List CpInfo
  | 0, r => r
  | n + 1, r => .unusable :: gap n r
def poolList (es : List (Nat × CpInfo)) (last : Nat) : List CpInfo := es.foldr (fun e r => gap e.1 (e.2 :: r)) (gap last [])
def pool (es : List (Nat × CpInfo)) (last : Nat) : Array CpInfo := ⟨poolList es last⟩
def fileOf (pool : Array CpInfo) (this : Nat) (attrs : Array Attribute := #[]) (ms : Array MethodInfo := #[]) (fl : Nat := 33) (sup : Nat := 0) (ifs : Array Nat := #[]) (fds : Array FieldInfo := #[]) : ClassFile where
  minorVersion := 0
  majorVersion := 65
  constantPool := pool
  accessFlags := fl
  thisClass := this
  superClass := sup
  interfaces := ifs
  fields := fds
  methods := ms
  attributes := attrs
def plain (name : String) (sup : Option ClassId) : Class where
  name := name
  kind := .ordinary
  loader := none
  accessFlags := 33
  super := sup
  interfaces := #[]
  cf := none
  fields := #[]
  methods := #[]
  instanceTypes := #[]
  staticTypes := #[]
  resolved := #[]
  callSites := []
  init := .initialized
  statics := none
  mirror := none

def pool0 : Array CpInfo := pool [(5, u "<init>"), (0, u "()V"), (1, .class_ 10), (1, u "java/lang/Object")] 113

def k0m0 : Method := { name := "<init>", desc := "()V", sig := { parameters := [], returnType := none }, accessFlags := 1, code := none }
/-- java/lang/Object -/
def k0 : Class := { plain "java/lang/Object" none with
  accessFlags := 33
  interfaces := #[]
  cf := some (fileOf pool0 8 #[] #[{ accessFlags := 1, nameIndex := 5, descriptorIndex := 6, attributes := #[] }] 33 0 #[] #[])
  fields := #[]
  methods := #[k0m0]
  instanceTypes := #[]
  staticTypes := #[]
  resolved := Array.replicate 124 none
  statics := none }

def pool1 : Array CpInfo := pool [(2, .class_ 4), (1, u "java/lang/Object"), (0, u "<init>"), (0, u "()V"), (2, .long 9223372036854775807), (1, .methodref 12 13), (0, .class_ 14), (0, .nameAndType 15 16), (0, u "com/example/windward/windward/storage/VarIntsWritePinLaw"), (0, u "more"), (0, u "(JI)I"), (0, .methodref 18 19), (0, .class_ 20), (0, .nameAndType 21 22), (0, u "com/example/windward/windward/storage/VarInts"), (0, u "write"), (0, u "([BIJ)I"), (0, .methodref 12 24), (0, .nameAndType 25 26), (0, u "at"), (0, u "([BIIIJB)Z"), (0, .long 127), (3, u "law"), (0, u "(JIII)Z")] 5

def k1m0 : Method := { name := "<init>", desc := "()V", sig := { parameters := [], returnType := none }, accessFlags := 1, code := none }
def k1c1 : Code := { maxStack := 7, maxLocals := 13, code := code, exceptionTable := #[], attributes := #[] }
def k1m1 : Method := { name := "law", desc := "(JIII)Z", sig := { parameters := [.long, .int, .int, .int], returnType := some .boolean }, accessFlags := 9, code := some k1c1 }
def k1c2 : Code := { maxStack := 4, maxLocals := 3, code := method_3_code, exceptionTable := #[], attributes := #[] }
def k1m2 : Method := { name := "more", desc := "(JI)I", sig := { parameters := [.long, .int], returnType := some .int }, accessFlags := 10, code := some k1c2 }
def k1c3 : Code := { maxStack := 4, maxLocals := 10, code := method_4_code, exceptionTable := #[], attributes := #[] }
def k1m3 : Method := { name := "at", desc := "([BIIIJB)Z", sig := { parameters := [(.array .byte), .int, .int, .int, .long, .byte], returnType := some .boolean }, accessFlags := 10, code := some k1c3 }
/-- com/example/windward/windward/storage/VarIntsWritePinLaw -/
def k1 : Class := { plain "com/example/windward/windward/storage/VarIntsWritePinLaw" (some 0) with
  accessFlags := 49
  interfaces := #[]
  cf := some (fileOf pool1 12 #[] #[{ accessFlags := 1, nameIndex := 5, descriptorIndex := 6, attributes := #[] }, { accessFlags := 9, nameIndex := 31, descriptorIndex := 32, attributes := #[] }, { accessFlags := 10, nameIndex := 15, descriptorIndex := 16, attributes := #[] }, { accessFlags := 10, nameIndex := 25, descriptorIndex := 26, attributes := #[] }] 49 2 #[] #[])
  fields := #[]
  methods := #[k1m0, k1m1, k1m2, k1m3]
  instanceTypes := #[]
  staticTypes := #[]
  resolved := Array.replicate 38 none
  statics := none }

def pool2 : Array CpInfo := pool [(2, .class_ 4), (1, u "java/lang/Object"), (0, u "<init>"), (0, u "()V"), (0, .long 18446744073709551488), (1, .long 127), (5, u "write"), (1, .long 128), (1, .class_ 20), (0, u "com/example/windward/windward/storage/VarInts"), (15, u "LONGEST"), (0, u "I"), (9, u "([BIJ)I")] 6

def k2m0 : Method := { name := "<init>", desc := "()V", sig := { parameters := [], returnType := none }, accessFlags := 2, code := none }
def k2c1 : Code := { maxStack := 6, maxLocals := 5, code := prog_28_method_3_code, exceptionTable := #[], attributes := #[] }
def k2m1 : Method := { name := "write", desc := "([BIJ)I", sig := { parameters := [(.array .byte), .int, .long], returnType := some .int }, accessFlags := 9, code := some k2c1 }
/-- com/example/windward/windward/storage/VarInts -/
def k2 : Class := { plain "com/example/windward/windward/storage/VarInts" (some 0) with
  accessFlags := 49
  interfaces := #[]
  cf := some (fileOf pool2 19 #[] #[{ accessFlags := 2, nameIndex := 5, descriptorIndex := 6, attributes := #[] }, { accessFlags := 9, nameIndex := 15, descriptorIndex := 47, attributes := #[] }] 49 2 #[] #[{ accessFlags := 26, nameIndex := 36, descriptorIndex := 37, attributes := #[] }])
  fields := #[{ name := "LONGEST", type := .int, accessFlags := 26, slot := 0, constantValue := 0 }]
  methods := #[k2m0, k2m1]
  instanceTypes := #[]
  staticTypes := #[.int]
  resolved := Array.replicate 54 none
  statics := none }

def pool3 : Array CpInfo := pool [(1, u "java/lang/Cloneable"), (0, .class_ 1), (0, u "java/lang/Object"), (0, .class_ 3)] 3

/-- java/lang/Cloneable -/
def k3 : Class := { plain "java/lang/Cloneable" (some 0) with
  accessFlags := 1537
  interfaces := #[]
  cf := some (fileOf pool3 2 #[] #[] 1537 4 #[] #[])
  fields := #[]
  methods := #[]
  instanceTypes := #[]
  staticTypes := #[]
  resolved := Array.replicate 8 none
  statics := none }

def pool4 : Array CpInfo := pool [(1, u "java/io/Serializable"), (0, .class_ 1), (0, u "java/lang/Object"), (0, .class_ 3)] 3

/-- java/io/Serializable -/
def k4 : Class := { plain "java/io/Serializable" (some 0) with
  accessFlags := 1537
  interfaces := #[]
  cf := some (fileOf pool4 2 #[] #[] 1537 4 #[] #[])
  fields := #[]
  methods := #[]
  instanceTypes := #[]
  staticTypes := #[]
  resolved := Array.replicate 8 none
  statics := none }

/-- the primitive byte -/
def k5 : Class := { plain "byte" none with kind := .primitive 'B', accessFlags := 0x411 }
/-- [B -/
def k6 : Class := { plain "[B" (some 0) with kind := .array 5 .byte, interfaces := #[3, 4], accessFlags := 1041 }

/-- the primitive int -/
def k7 : Class := { plain "int" none with kind := .primitive 'I', accessFlags := 0x411 }
/-- [I -/
def k8 : Class := { plain "[I" (some 0) with kind := .array 7 .int, interfaces := #[3, 4], accessFlags := 1041 }

def heap : Heap := #[]
def classes : Array Class := #[k0, k1, k2, k3, k4, k5, k6, k7, k8]
def interned : List (Array UInt16 × Addr) := []
def slotsUsed : Nat := 0
def theMethod : MethodId := ⟨1, 1⟩
def args0 : Array Value := #[.long 5, .int 3, .int 3, .int 3]
def aboutOver (below : List Frame) : State where
  vm := { classes := classes, interned := interned.toArray }
  heap := heap
  slotsUsed := slotsUsed
  threads := #[{ frames := .invoking theMethod args0 :: below }]
def below0 : List Frame := [.native { method := ⟨0, 0⟩, args := #[] }]
def about1 : State := aboutOver below0
def p0 : Program := .bare "" "" ""
def e0 : Env := launch0.env 0 0 0
theorem w_frames : about1.frames = Frame.invoking theMethod args0 :: below0 := rfl
set_option maxRecDepth 65536 in
theorem w_args : argsFit about1.vm theMethod args0 = true := by decide +kernel
set_option maxRecDepth 65536 in
theorem w_heap : heapFits about1 = true := by decide +kernel
set_option maxRecDepth 65536 in
theorem w_runnable : about1.curStatus? = some .runnable := by decide +kernel
set_option maxRecDepth 65536 in
theorem w_alone : about1.alone = true := by decide +kernel
set_option maxRecDepth 65536 in
theorem w_named : about1.methodNamed? x = some theMethod := by decide +kernel
set_option maxRecDepth 65536 in
theorem w_hears : about1.hears theMethod below0 = true := by decide +kernel
set_option maxRecDepth 65536 in
theorem w_ripe : about1.ripe theMethod args0 below0 = true := by decide +kernel
theorem w_running : about1.status = .running := rfl
set_option maxRecDepth 65536 in
theorem w_room : about1.hasRoom e0.platform room_1 = true :=
  launch0.hasRoom_least _ room_1 (by decide +kernel) (by decide +kernel) (by decide +kernel) (by decide +kernel) (by decide +kernel) (by decide +kernel)
theorem allAtoms_all (ts : List Jvm.Cond) (a : Array Jvm.Value) (st : Jvm.State) : (allAtoms ts).before a st = ts.all (fun c => c.before a st) := by
  induction ts with
  | nil => rfl
  | cons c t ih =>
    show (Jvm.Cond.and c (allAtoms t)).before a st = _
    rw [Jvm.Cond.before_and, ih, List.all_cons]
def words1 : List Jvm.Cond := Jvm.Cond.code x code maxLocals ret :: tables_1
/-- a 'code' word, met by the world's own term for the bytes: nothing is compared byte by byte -/
theorem code_word {y : MethodName} {bytes : ByteArray} {mx : Nat} {rt : Option FieldType} {a : Array Value} {s : State} {m : MethodId} {meth : Method} {c : Code} (h1 : s.methodNamed? y = some m) (h2 : s.vm.method? m = some meth) (h3 : meth.code = some c) (h4 : c.code = bytes)
    (h5 : (c.maxLocals == mx && c.exceptionTable.isEmpty && decide (c.maxStack ≤ mostOperands) && decide (meth.sig.returnType = rt) && !meth.locks && decide (parseMethodDescriptor y.desc = some meth.sig)) = true) : (Jvm.Cond.code y bytes mx rt).before a s = true := by
  simp only [Bool.and_eq_true, beq_iff_eq, Bool.not_eq_true', decide_eq_true_eq] at h5
  obtain ⟨⟨⟨⟨⟨g1, g2⟩, g3⟩, g4⟩, g5⟩, g6⟩ := h5
  simp [Cond.before, Cond.holds, Cond.value, h1, h2, h3, h4, g1, g2, g3, g4, g5, g6]
def isCode : Jvm.Cond → Bool
  | .code _ _ _ _ => true
  | _ => false
theorem all_split {L : List Jvm.Cond} {P : Jvm.Cond → Bool} (h1 : L.all (fun c => isCode c || P c) = true) (h2 : ∀ c ∈ L.filter isCode, P c = true) : L.all P = true := by
  refine List.all_eq_true.mpr fun c hc => ?_
  have h := List.all_eq_true.mp h1 c hc
  rcases Bool.eq_false_or_eq_true (isCode c) with hi | hi
  · exact h2 c (List.mem_filter.mpr ⟨hc, hi⟩)
  · simpa [hi] using h
set_option maxRecDepth 65536 in
theorem w_c0 : (Jvm.Cond.code x code maxLocals ret).before args0 about1 = true := code_word (m := ⟨1, 1⟩) (meth := k1m1) (c := k1c1) (by decide +kernel) rfl rfl rfl (by decide +kernel)
set_option maxRecDepth 65536 in
theorem w_c1 : (Jvm.Cond.code ({ cls := "com/example/windward/windward/storage/VarIntsWritePinLaw", name := "more", desc := "(JI)I" } : Jvm.MethodName) method_3_code (3 : Nat) (Option.some Jvm.ClassFile.FieldType.int)).before args0 about1 = true := code_word (m := ⟨1, 2⟩) (meth := k1m2) (c := k1c2) (by decide +kernel) rfl rfl rfl (by decide +kernel)
set_option maxRecDepth 65536 in
theorem w_c2 : (Jvm.Cond.code ({ cls := "com/example/windward/windward/storage/VarInts", name := "write", desc := "([BIJ)I" } : Jvm.MethodName) prog_28_method_3_code (5 : Nat) (Option.some Jvm.ClassFile.FieldType.int)).before args0 about1 = true := code_word (m := ⟨2, 1⟩) (meth := k2m1) (c := k2c1) (by decide +kernel) rfl rfl rfl (by decide +kernel)
set_option maxRecDepth 65536 in
theorem w_c3 : (Jvm.Cond.code ({ cls := "com/example/windward/windward/storage/VarIntsWritePinLaw", name := "at", desc := "([BIIIJB)Z" } : Jvm.MethodName) method_4_code (10 : Nat) (Option.some Jvm.ClassFile.FieldType.boolean)).before args0 about1 = true := code_word (m := ⟨1, 3⟩) (meth := k1m3) (c := k1c3) (by decide +kernel) rfl rfl rfl (by decide +kernel)
def codes1 : List Jvm.Cond := [Jvm.Cond.code x code maxLocals ret, Jvm.Cond.code ({ cls := "com/example/windward/windward/storage/VarIntsWritePinLaw", name := "more", desc := "(JI)I" } : Jvm.MethodName) method_3_code (3 : Nat) (Option.some Jvm.ClassFile.FieldType.int), Jvm.Cond.code ({ cls := "com/example/windward/windward/storage/VarInts", name := "write", desc := "([BIJ)I" } : Jvm.MethodName) prog_28_method_3_code (5 : Nat) (Option.some Jvm.ClassFile.FieldType.int), Jvm.Cond.code ({ cls := "com/example/windward/windward/storage/VarIntsWritePinLaw", name := "at", desc := "([BIIIJB)Z" } : Jvm.MethodName) method_4_code (10 : Nat) (Option.some Jvm.ClassFile.FieldType.boolean)]
set_option maxRecDepth 65536 in
theorem codes_eq : words1.filter isCode = codes1 := rfl
theorem w_codes : ∀ c ∈ words1.filter isCode, c.before args0 about1 = true := by
  rw [codes_eq]
  intro c hc
  simp only [codes1, List.mem_cons, List.not_mem_nil, or_false] at hc
  rcases hc with rfl | rfl | rfl | rfl
  · exact w_c0
  · exact w_c1
  · exact w_c2
  · exact w_c3
set_option maxRecDepth 65536 in
theorem w_t1 : words1.all (fun c => isCode c || c.before args0 about1) = true := by decide +kernel
theorem w_tables : (allAtoms (Jvm.Cond.code x code maxLocals ret :: tables_1)).before args0 about1 = true := by
  rw [allAtoms_all]
  show words1.all (fun c => c.before args0 about1) = true
  refine all_split ?_ w_codes
  rw [w_t1]
set_option maxRecDepth 65536 in
theorem w_case : (Jvm.Cond.and given_1 narrow_1).before args0 about1 = true := by decide +kernel
theorem w_applies : (headSpec (Jvm.Cond.code x code maxLocals ret :: tables_1) room_1).applies x e0.platform about1 = true :=
  (Spec.applies_iff w_frames).mpr ⟨w_running, w_runnable, w_alone, w_named, w_hears, w_ripe, w_room, w_tables⟩
theorem atStart : AtStart classFile x code maxLocals ret World_1 tables_1 room_1 Calls_1 rest_1 Pre_1 launch0 p0 e0 about1 theMethod args0 below0 :=
  ⟨lists_1, trivial, launch0.admits_env _ _ _, launch0.least_env, fairChoices_fair.cas, fairChoices_fair.clock, w_frames, w_args, w_heap, w_applies, trivial, trivial, w_case⟩
end start1
theorem witness_1 : WitnessClaimed_1 := ⟨start1.p0, start1.e0, start1.about1, start1.theMethod, start1.args0, start1.below0, start1.atStart⟩
end Jvm.Pilot.@@N@@
