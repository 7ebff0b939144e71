import JvmDerived
import JvmDerived.Pilot.@@N@@Statement
import JvmDerived.Pilot.@@N@@Code
set_option linter.unusedVariables false
set_option linter.unusedSimpArgs false
namespace Jvm.Pilot.@@N@@
open Jvm Jvm.ClassFile Sem Op Lib Jvm.Free Jvm.Stand Jvm.LawKit Jvm.RoadKit Bundle Jvm.Pilot.@@N@@.Jvm.D
theorem own_grow {p : Program} {l : Launch} {e : Env} {R : Room} {s : State} {m : MethodId} {args : Array Value} {below : List Frame} {meth : Method} {c : Code} {T : State} {locs : List Loc} {cells slots cells' slots' : Nat}
    (X : Stand p l e R s m args below meth c T locs cells slots) (h1 : cells ≤ cells') (h2 : slots ≤ slots') : Stand p l e R s m args below meth c T locs cells' slots' :=
  ⟨X.admits, X.cas, X.clock, X.frames, X.room, X.hears, X.method, X.code, X.here, X.tail, X.warmed, X.limits, X.bytes, X.same.mono h1 h2⟩
section OwnArr
variable {p : Program} {l : Launch} {e : Env} {R : Room} {s : State} {m : MethodId} {args : Array Value} {below : List Frame} {meth : Method} {c : Code} {T : State} {locs : List Loc} {cells slots : Nat} {Z : State} {a0 : Array Value} {h : Heap} {a : Addr} {k : ClassId} {z : Int32} {vs : List Value} {dv : Value}
theorem own_ldB (X : Stand p l e R s m args below meth c T locs cells slots) (hx : p.tables.exec = Jvm.exec) (hZ : Z.Warmed39 s.vm) (eT : T.heap = h) (F : Arv Z h a k .byte z vs dv) {j : Int32} (q : ¬ j < 0 ∧ j < z) {v : Value} (u : vs.getD j.toNatClampNeg dv = v) {g : JFrame} (hg : g.method = m) {rest : List Value} (hs : g.stack = .int j :: .ref a :: rest) (hd : decode c.code g.pc = .ok (.baload, 1)) :
    Steps p.tables e below (T.setTop g) (T.setTop { g with pc := g.pc + 1, stack := v :: rest }) := by
  obtain ⟨cl, A, q1, S, N, H, G⟩ := F
  have hin := inb_of S q
  exact X.baloadBytes hx (by rw [eT]; exact A.1) (State.isArrayOf_alike hZ.alike A.2.1) A.2.2 hin (H.at hin u) hg hs hd _ (Steps.refl _)
theorem own_ldI (X : Stand p l e R s m args below meth c T locs cells slots) (hx : p.tables.exec = Jvm.exec) (hZ : Z.Warmed39 s.vm) (eT : T.heap = h) (F : Arv Z h a k .int z vs dv) {j : Int32} (q : ¬ j < 0 ∧ j < z) {v : Value} (u : vs.getD j.toNatClampNeg dv = v) {g : JFrame} (hg : g.method = m) {rest : List Value} (hs : g.stack = .int j :: .ref a :: rest) (hd : decode c.code g.pc = .ok (.iaload, 1)) :
    Steps p.tables e below (T.setTop g) (T.setTop { g with pc := g.pc + 1, stack := v :: rest }) := by
  obtain ⟨cl, A, q1, S, N, H, G⟩ := F
  have hin := inb_of S q
  exact X.iaload hx (by rw [eT]; exact A.1) (State.isArrayOf_alike hZ.alike A.2.1) A.2.2 hin (H.at hin u) hg hs hd _ (Steps.refl _)
theorem own_ldJ (X : Stand p l e R s m args below meth c T locs cells slots) (hx : p.tables.exec = Jvm.exec) (hZ : Z.Warmed39 s.vm) (eT : T.heap = h) (F : Arv Z h a k .long z vs dv) {j : Int32} (q : ¬ j < 0 ∧ j < z) {v : Value} (u : vs.getD j.toNatClampNeg dv = v) {g : JFrame} (hg : g.method = m) {rest : List Value} (hs : g.stack = .int j :: .ref a :: rest) (hd : decode c.code g.pc = .ok (.laload, 1)) :
    Steps p.tables e below (T.setTop g) (T.setTop { g with pc := g.pc + 1, stack := v :: rest }) := by
  obtain ⟨cl, A, q1, S, N, H, G⟩ := F
  have hin := inb_of S q
  exact X.laload hx (by rw [eT]; exact A.1) (State.isArrayOf_alike hZ.alike A.2.1) A.2.2 hin (H.at hin u) hg hs hd _ (Steps.refl _)
theorem own_len {ty : FieldType} (X : Stand p l e R s m args below meth c T locs cells slots) (hx : p.tables.exec = Jvm.exec) (hZ : Z.Warmed39 s.vm) (eT : T.heap = h) (F : Arv Z h a k ty z vs dv) {g : JFrame} (hg : g.method = m) {rest : List Value} (hs : g.stack = .ref a :: rest) (hd : decode c.code g.pc = .ok (.arraylength, 1)) :
    Steps p.tables e below (T.setTop g) (T.setTop { g with pc := g.pc + 1, stack := .int z :: rest }) := by
  obtain ⟨cl, A, q1, S, N, H, G⟩ := F
  have q := X.arraylength hx (by rw [eT]; exact A.1) (State.isArrayOf_alike hZ.alike A.2.1) hg hs hd _ (Steps.refl _)
  rw [len_of S N] at q
  exact q
theorem own_stB (X : Stand p l e R s m args below meth c T locs cells slots) (hx : p.tables.exec = Jvm.exec) (hZ : Z.Warmed39 s.vm) (eT : T.heap = h) (F : Arv Z h a k .byte z vs dv) {j x : Int32} (q : ¬ j < 0 ∧ j < z) (i : Nat) (hj : j.toNatClampNeg = i) (hi : i < vs.length) {g : JFrame} (hg : g.method = m) {rest : List Value} (hs : g.stack = .int x :: .int j :: .ref a :: rest) (hd : decode c.code g.pc = .ok (.bastore, 1)) :
    ∃ T' h', Stand p l e R s m args below meth c T' (locs ++ [⟨a, j.toNatClampNeg⟩]) cells slots ∧ T'.heap = h' ∧ Wr h h' a j.toNatClampNeg (.int (x.toInt8.toInt32)) ∧ Arv Z h' a k .byte z (vs.set i (.int (x.toInt8.toInt32))) dv ∧ Steps p.tables e below (T.setTop g) (T'.setTop { g with pc := g.pc + 1, stack := rest }) := by
  obtain ⟨cl, A, q1, S, N, H, G⟩ := F
  have hin := inb_of S q
  obtain ⟨T', h', X', e', W, st⟩ := stB X hx hZ eT A hin hg hs hd
  exact ⟨T', h', X', e', W, Arv.set A q1 S N H G (fits_nar_byte _) W i hj hi, st _ (Steps.refl _)⟩
theorem own_stI (X : Stand p l e R s m args below meth c T locs cells slots) (hx : p.tables.exec = Jvm.exec) (hZ : Z.Warmed39 s.vm) (eT : T.heap = h) (F : Arv Z h a k .int z vs dv) {j x : Int32} (q : ¬ j < 0 ∧ j < z) (i : Nat) (hj : j.toNatClampNeg = i) (hi : i < vs.length) {g : JFrame} (hg : g.method = m) {rest : List Value} (hs : g.stack = .int x :: .int j :: .ref a :: rest) (hd : decode c.code g.pc = .ok (.iastore, 1)) :
    ∃ T' h', Stand p l e R s m args below meth c T' (locs ++ [⟨a, j.toNatClampNeg⟩]) cells slots ∧ T'.heap = h' ∧ Wr h h' a j.toNatClampNeg (.int x) ∧ Arv Z h' a k .int z (vs.set i (.int x)) dv ∧ Steps p.tables e below (T.setTop g) (T'.setTop { g with pc := g.pc + 1, stack := rest }) := by
  obtain ⟨cl, A, q1, S, N, H, G⟩ := F
  have hin := inb_of S q
  obtain ⟨T', h', X', e', W, st⟩ := stI X hx hZ eT A hin hg hs hd
  exact ⟨T', h', X', e', W, Arv.set A q1 S N H G rfl W i hj hi, st _ (Steps.refl _)⟩
theorem own_stJ (X : Stand p l e R s m args below meth c T locs cells slots) (hx : p.tables.exec = Jvm.exec) (hZ : Z.Warmed39 s.vm) (eT : T.heap = h) (F : Arv Z h a k .long z vs dv) {j : Int32} {x : Int64} (q : ¬ j < 0 ∧ j < z) (i : Nat) (hj : j.toNatClampNeg = i) (hi : i < vs.length) {g : JFrame} (hg : g.method = m) {rest : List Value} (hs : g.stack = .long x :: .int j :: .ref a :: rest) (hd : decode c.code g.pc = .ok (.lastore, 1)) :
    ∃ T' h', Stand p l e R s m args below meth c T' (locs ++ [⟨a, j.toNatClampNeg⟩]) cells slots ∧ T'.heap = h' ∧ Wr h h' a j.toNatClampNeg (.long x) ∧ Arv Z h' a k .long z (vs.set i (.long x)) dv ∧ Steps p.tables e below (T.setTop g) (T'.setTop { g with pc := g.pc + 1, stack := rest }) := by
  obtain ⟨cl, A, q1, S, N, H, G⟩ := F
  have hin := inb_of S q
  obtain ⟨T', h', X', e', W, st⟩ := stJ X hx hZ eT A hin hg hs hd
  exact ⟨T', h', X', e', W, Arv.set A q1 S N H G rfl W i hj hi, st _ (Steps.refl _)⟩
theorem own_newB (X : Stand p l e R s m args below meth c T locs cells slots) (hx : p.tables.exec = Jvm.exec) (hZ : Z.Warmed39 s.vm) (w : (Jvm.Cond.arrayClass .byte).before a0 Z = true) (eT : T.heap = h) {g : JFrame} (hg : g.method = m) (hd : decode c.code g.pc = .ok (.newarray .byte, 2)) {n : Int32} {rest : List Value} (hs : g.stack = .int n :: rest)
    (hn : ¬ n < 0) (N : Nat) (hcap : n.toNatClampNeg ≤ N) (hb : N * 8 ≤ 536870912) (hc : cells + 1 ≤ R.cells) (hl : slots + N ≤ R.slots) :
    ∃ T' h' k x, Stand p l e R s m args below meth c T' locs (cells + 1) (slots + N) ∧ T'.heap = h' ∧ Ext h h' ∧ x = h.size ∧ Arv Z h' x k .byte n (List.replicate N (.int (0 : Int32))) (.int (0 : Int32)) ∧ Exa Z h' x "[B" ∧ Steps p.tables e below (T.setTop g) (T'.setTop { g with pc := g.pc + 2, stack := .ref x :: rest }) := by
  obtain ⟨T', h', k, X', e', E, A, Ex, st⟩ := newPE (aty := .byte) X hx hZ w eT hg hd hs hn hcap hb hc hl (ad := "[B") (by decide)
  exact ⟨T', h', k, _, X', e', E, rfl, (Arv.new A hn).pad (pad_rep [] _ N), Ex, st _ (Steps.refl _)⟩
theorem own_newI (X : Stand p l e R s m args below meth c T locs cells slots) (hx : p.tables.exec = Jvm.exec) (hZ : Z.Warmed39 s.vm) (w : (Jvm.Cond.arrayClass .int).before a0 Z = true) (eT : T.heap = h) {g : JFrame} (hg : g.method = m) (hd : decode c.code g.pc = .ok (.newarray .int, 2)) {n : Int32} {rest : List Value} (hs : g.stack = .int n :: rest)
    (hn : ¬ n < 0) (N : Nat) (hcap : n.toNatClampNeg ≤ N) (hb : N * 8 ≤ 536870912) (hc : cells + 1 ≤ R.cells) (hl : slots + N ≤ R.slots) :
    ∃ T' h' k x, Stand p l e R s m args below meth c T' locs (cells + 1) (slots + N) ∧ T'.heap = h' ∧ Ext h h' ∧ x = h.size ∧ Arv Z h' x k .int n (List.replicate N (.int (0 : Int32))) (.int (0 : Int32)) ∧ Exa Z h' x "[I" ∧ Steps p.tables e below (T.setTop g) (T'.setTop { g with pc := g.pc + 2, stack := .ref x :: rest }) := by
  obtain ⟨T', h', k, X', e', E, A, Ex, st⟩ := newPE (aty := .int) X hx hZ w eT hg hd hs hn hcap hb hc hl (ad := "[I") (by decide)
  exact ⟨T', h', k, _, X', e', E, rfl, (Arv.new A hn).pad (pad_rep [] _ N), Ex, st _ (Steps.refl _)⟩
theorem own_newJ (X : Stand p l e R s m args below meth c T locs cells slots) (hx : p.tables.exec = Jvm.exec) (hZ : Z.Warmed39 s.vm) (w : (Jvm.Cond.arrayClass .long).before a0 Z = true) (eT : T.heap = h) {g : JFrame} (hg : g.method = m) (hd : decode c.code g.pc = .ok (.newarray .long, 2)) {n : Int32} {rest : List Value} (hs : g.stack = .int n :: rest)
    (hn : ¬ n < 0) (N : Nat) (hcap : n.toNatClampNeg ≤ N) (hb : N * 8 ≤ 536870912) (hc : cells + 1 ≤ R.cells) (hl : slots + N ≤ R.slots) :
    ∃ T' h' k x, Stand p l e R s m args below meth c T' locs (cells + 1) (slots + N) ∧ T'.heap = h' ∧ Ext h h' ∧ x = h.size ∧ Arv Z h' x k .long n (List.replicate N (.long (0 : Int64))) (.long (0 : Int64)) ∧ Exa Z h' x "[J" ∧ Steps p.tables e below (T.setTop g) (T'.setTop { g with pc := g.pc + 2, stack := .ref x :: rest }) := by
  obtain ⟨T', h', k, X', e', E, A, Ex, st⟩ := newPE (aty := .long) X hx hZ w eT hg hd hs hn hcap hb hc hl (ad := "[J") (by decide)
  exact ⟨T', h', k, _, X', e', E, rfl, (Arv.new A hn).pad (pad_rep [] _ N), Ex, st _ (Steps.refl _)⟩
end OwnArr
def own_cp (N z : Nat) (vs : List Value) (d : Value) : List Value := (List.replicate N d).take 0 ++ ((List.range z).map fun jx => vs.getD (0 + jx) d) ++ (List.replicate N d).drop (0 + z)
def own_cpre (p z : Int32) : Prop := 0 ≤ z.toInt ∧ z.toInt < p.toInt ∧ p.toInt ≤ 65536
def own_gv : Value → Int64
  | .long y => y
  | _ => 0
def own_gl (vs : List Value) (k : Nat) : Int64 := own_gv (vs.getD k (.long (0 : Int64)))
def own_gi : Value → Int32
  | .int y => y
  | _ => 0
def own_mem (vm : List Value) (k : Nat) : Int32 := own_gi (vm.getD k (.int (0 : Int32)))
def own_w (q : Int32) : Nat := q.toBitVec.toNat / 64
def own_j (q : Int32) : Nat := q.toBitVec.toNat % 64
def own_ok (q : Int32) : Prop := 0 ≤ q.toInt ∧ q.toInt < 1048576
def own_cl (z : Int32) (vs : List Value) (R : List Int32) : Prop := vs.length = z.toNatClampNeg ∧ (∀ i, vs.getD i (.long (0 : Int64)) = .long (own_gl vs i)) ∧ (∀ (w j : Nat), j < 64 → ((own_gl vs w).toBitVec.getLsbD j = true ↔ ∃ q ∈ R, own_w q = w ∧ own_j q = j))
def own_inv (z : Int32) (vs vm : List Value) (n : Int32) (S : List Int32) : Prop := own_cl z vs S ∧ (1 ≤ z.toInt ∧ z.toInt ≤ 32768) ∧ vm.length = 16 ∧ n.toInt = (S.length : Int) ∧ (∀ i, i < S.length → vm.getD i (.int (0 : Int32)) = .int (S.getD i 0)) ∧ (∀ q ∈ S, own_ok q ∧ (own_w q : Int) < z.toInt) ∧ S.Nodup
def own_addS (S : List Int32) (q : Int32) : List Int32 := if q ∈ S then S else S ++ [q]
def own_ret (S : List Int32) (q : Int32) : Int32 := if q ∈ S then 0 else 1
def own_ln (S : List Int32) : Int32 := Int32.ofNat S.length
def own_NN (z p : Int32) : Nat := if ((p.toUInt32 >>> ((6 : Int32) &&& 31).toUInt32).toInt32) < z then 0 else (if ((2 : Int32) * z) < (((p.toUInt32 >>> ((6 : Int32) &&& 31).toUInt32).toInt32) + (1 : Int32)) then (((p.toUInt32 >>> ((6 : Int32) &&& 31).toUInt32).toInt32) + (1 : Int32)) else ((2 : Int32) * z)).toNatClampNeg
theorem own_z0 : (0 : Int32).toInt = 0 := rfl
theorem own_z1 : (1 : Int32).toInt = 1 := rfl
theorem own_z2 : (2 : Int32).toInt = 2 := rfl
theorem own_z16 : (16 : Int32).toInt = 16 := rfl
theorem own_lt32 {a b : Int32} : a < b ↔ a.toInt < b.toInt := Int32.lt_iff_toInt_lt
theorem own_cn (a : Int32) : a.toNatClampNeg = a.toInt.toNat := rfl
theorem own_c1 {p z : Int32} (h : own_cpre p z) : ¬ (p = z) := by
  intro e; obtain ⟨h1, h2, h3⟩ := h; rw [e] at h2; omega
theorem own_c2 {p z : Int32} (h : own_cpre p z) : ¬ p < 0 := by
  obtain ⟨h1, h2, h3⟩ := h; rw [own_lt32, own_z0]; omega
theorem own_c3 {p z : Int32} (h : own_cpre p z) : p.toNatClampNeg * 8 ≤ 536870912 := by
  obtain ⟨h1, h2, h3⟩ := h; rw [own_cn]; omega
theorem own_c4 {p z : Int32} (h : own_cpre p z) : (if p < z then p else z) = z := by
  obtain ⟨h1, h2, h3⟩ := h; rw [if_neg (by rw [own_lt32]; omega)]
theorem own_c5 {p z : Int32} (h : own_cpre p z) : ¬ z < 0 := by
  obtain ⟨h1, h2, h3⟩ := h; rw [own_lt32, own_z0]; omega
theorem own_c6 {p z : Int32} (h : own_cpre p z) : (0 : Int32).toNatClampNeg + z.toNatClampNeg ≤ p.toNatClampNeg := by
  obtain ⟨h1, h2, h3⟩ := h
  have e : (0 : Int32).toNatClampNeg = 0 := rfl
  rw [e, own_cn, own_cn]; omega
theorem own_c7 {p z : Int32} (h : own_cpre p z) {d : Value} : (0 : Int32).toNatClampNeg + z.toNatClampNeg ≤ (List.replicate p.toNatClampNeg d).length := by
  rw [List.length_replicate]; exact own_c6 h
theorem own_n32 (q : Int32) : (q.toBitVec.toNat : Int) = q.toInt % 4294967296 := by
  have h := q.toBitVec.isLt
  show _ = q.toBitVec.toInt % 4294967296
  rw [BitVec.toInt_eq_toNat_bmod]
  have := Jvm.RoadKit.bm32 (q.toBitVec.toNat : Int)
  omega
theorem own_wi (q : Int32) : (((q.toUInt32 >>> ((6 : Int32) &&& 31).toUInt32).toInt32)).toInt = (own_w q : Int) ∧ (own_w q : Int) < 67108864 := by
  have a := Jvm.RoadKit.c_iushr q (6 : Int32) 6 (by decide) (by decide)
  have b := own_n32 q
  have h := q.toBitVec.isLt
  unfold own_w
  rw [a, ← b]
  omega
theorem own_wt (q : Int32) : (((q.toUInt32 >>> ((6 : Int32) &&& 31).toUInt32).toInt32)).toNatClampNeg = own_w q := by
  have a := (own_wi q).1
  rw [own_cn, a]; omega
theorem own_eq (p q : Int32) (h1 : own_w p = own_w q) (h2 : own_j p = own_j q) : p = q := by
  unfold own_w at h1
  unfold own_j at h2
  exact Int32.toBitVec_inj.mp (BitVec.eq_of_toNat_eq (by omega))
theorem own_w16 {q : Int32} (h : own_ok q) : own_w q < 16384 := by
  have b := own_n32 q
  obtain ⟨h1, h2⟩ := h
  unfold own_w
  omega
theorem own_jl (q : Int32) : own_j q < 64 := Nat.mod_lt _ (by decide)
theorem own_btb : ∀ (k j : Fin 64), ((1 : Int64) <<< (Int64.ofBitVec (BitVec.ofNat 64 k.val))).toBitVec.getLsbD j.val = decide (j.val = k.val) := by decide +kernel
theorem own_bt (q : Int32) (j : Nat) (hj : j < 64) : ((1 : Int64) <<< (q &&& 0x3f).toInt64).toBitVec.getLsbD j = decide (j = own_j q) := by
  have e := Jvm.RoadKit.sm64 q (q.toBitVec.toNat % 64) rfl
  have y : (q &&& 0x3f).toInt64 = Int64.ofBitVec (BitVec.ofNat 64 (q.toBitVec.toNat % 64)) := Int64.toBitVec_inj.mp e.1
  rw [y]
  exact own_btb ⟨q.toBitVec.toNat % 64, e.2⟩ ⟨j, hj⟩
theorem own_nb1 : ∀ j : Fin 64, (-1 : Int64).toBitVec.getLsbD j.val = true := by decide +kernel
theorem own_z64 (j : Nat) : (0 : Int64).toBitVec.getLsbD j = false := by
  show (0#64).getLsbD j = false
  simp
theorem own_land (a b : Int64) (j : Nat) : (a &&& b).toBitVec.getLsbD j = (a.toBitVec.getLsbD j && b.toBitVec.getLsbD j) := by
  rw [Int64.toBitVec_and, BitVec.getLsbD_and]
theorem own_lor (a b : Int64) (j : Nat) : (a ||| b).toBitVec.getLsbD j = (a.toBitVec.getLsbD j || b.toBitVec.getLsbD j) := by
  rw [Int64.toBitVec_or, BitVec.getLsbD_or]
theorem own_lnot (b : Int64) (j : Nat) (hj : j < 64) : (b ^^^ (-1 : Int64)).toBitVec.getLsbD j = !(b.toBitVec.getLsbD j) := by
  rw [Int64.toBitVec_xor, BitVec.getLsbD_xor, own_nb1 ⟨j, hj⟩, Bool.xor_true]
theorem own_tst {z : Int32} {vs : List Value} {S : List Int32} (h : own_cl z vs S) (p : Int32) : ((own_gl vs (((p.toUInt32 >>> ((6 : Int32) &&& 31).toUInt32).toInt32)).toNatClampNeg) &&& ((1 : Int64) <<< (p &&& 0x3f).toInt64)) = (0 : Int64) ↔ ¬ p ∈ S := by
  rw [own_wt]
  have B := h.2.2
  constructor
  · intro e m
    have t := (B (own_w p) (own_j p) (own_jl p)).mpr ⟨p, m, rfl, rfl⟩
    have u : ((own_gl vs (own_w p)) &&& ((1 : Int64) <<< (p &&& 0x3f).toInt64)).toBitVec.getLsbD (own_j p) = true := by
      rw [own_land, t, own_bt p _ (own_jl p)]; simp
    rw [e, own_z64] at u
    exact absurd u (by decide)
  · intro m
    apply Int64.toBitVec_inj.mp
    apply BitVec.eq_of_getLsbD_eq
    intro j hj
    rw [own_z64, own_land, own_bt p j hj]
    by_cases c : j = own_j p
    · cases g : (own_gl vs (own_w p)).toBitVec.getLsbD j with
      | false => rfl
      | true =>
        obtain ⟨q, q1, q2, q3⟩ := (B (own_w p) j hj).mp g
        have e := own_eq q p q2 (q3.trans c)
        exact (m (by rw [← e]; exact q1)).elim
    · rw [decide_eq_false c, Bool.and_false]
theorem own_gs (vs : List Value) (i : Nat) (v d : Value) (h : i < vs.length) : (vs.set i v).getD i d = v := by
  simp [List.getD, List.getElem?_set_self h]
theorem own_gn (vs : List Value) (i k : Nat) (v d : Value) (h : i ≠ k) : (vs.set i v).getD k d = vs.getD k d := by
  simp [List.getD, List.getElem?_set_ne h]
theorem own_gls (vs : List Value) (i k : Nat) (v : Int64) (hi : i < vs.length) : own_gl (vs.set i (.long v)) k = if k = i then v else own_gl vs k := by
  by_cases c : k = i
  · rw [if_pos c, c]
    show own_gv ((vs.set i (.long v)).getD i (.long (0 : Int64))) = v
    rw [own_gs _ _ _ _ hi] <;> rfl
  · rw [if_neg c]
    show own_gv ((vs.set i (.long v)).getD k (.long (0 : Int64))) = own_gv (vs.getD k (.long (0 : Int64)))
    rw [own_gn _ _ _ _ _ (fun e => c e.symm)]
theorem own_set {z : Int32} {vs : List Value} {S R : List Int32} (h : own_cl z vs S) (i : Nat) (v : Int64) (hi : i < vs.length) (h1 : ∀ j, j < 64 → (v.toBitVec.getLsbD j = true ↔ ∃ q ∈ R, own_w q = i ∧ own_j q = j)) (h2 : ∀ (w j : Nat), w ≠ i → ((∃ q ∈ R, own_w q = w ∧ own_j q = j) ↔ (∃ q ∈ S, own_w q = w ∧ own_j q = j))) : own_cl z (vs.set i (.long v)) R := by
  obtain ⟨a, b, c⟩ := h
  refine ⟨by rw [List.length_set]; exact a, ?_, ?_⟩
  · intro k
    rw [own_gls _ _ _ _ hi]
    by_cases e : k = i
    · rw [if_pos e, e, own_gs _ _ _ _ hi]
    · rw [if_neg e, own_gn _ _ _ _ _ (fun f => e f.symm)]
      exact b k
  · intro w j hj
    rw [own_gls _ _ _ _ hi]
    by_cases e : w = i
    · rw [if_pos e, e]; exact h1 j hj
    · rw [if_neg e]; exact (c w j hj).trans (h2 w j e).symm
theorem own_addcl {z : Int32} {vs : List Value} {S : List Int32} (h : own_cl z vs S) (p : Int32) (hi : own_w p < vs.length) : own_cl z (vs.set (((p.toUInt32 >>> ((6 : Int32) &&& 31).toUInt32).toInt32)).toNatClampNeg (.long ((own_gl vs (((p.toUInt32 >>> ((6 : Int32) &&& 31).toUInt32).toInt32)).toNatClampNeg) ||| ((1 : Int64) <<< (p &&& 0x3f).toInt64)))) (S ++ [p]) := by
  rw [own_wt]
  have c := h.2.2
  refine own_set h (own_w p) _ hi ?_ ?_
  · intro j hj
    rw [own_lor, Bool.or_eq_true, c _ j hj, own_bt p j hj, decide_eq_true_eq]
    constructor
    · intro k
      rcases k with ⟨q, q1, q2⟩ | e
      · exact ⟨q, List.mem_append.mpr (Or.inl q1), q2⟩
      · exact ⟨p, List.mem_append.mpr (Or.inr (List.mem_singleton.mpr rfl)), rfl, e.symm⟩
    · intro k
      obtain ⟨q, q1, q2, q3⟩ := k
      rcases List.mem_append.mp q1 with m | m
      · exact Or.inl ⟨q, m, q2, q3⟩
      · have e := List.mem_singleton.mp m
        rw [e] at q3
        exact Or.inr q3.symm
  · intro w j hw
    constructor
    · intro k
      obtain ⟨q, q1, q2, q3⟩ := k
      rcases List.mem_append.mp q1 with m | m
      · exact ⟨q, m, q2, q3⟩
      · have e := List.mem_singleton.mp m
        rw [e] at q2
        exact absurd q2.symm hw
    · intro k
      obtain ⟨q, q1, q2⟩ := k
      exact ⟨q, List.mem_append.mpr (Or.inl q1), q2⟩
theorem own_clrcl {z q : Int32} {vs vs' : List Value} {R : List Int32} (h : own_cl z vs (q :: R)) (nd : ¬ q ∈ R) (hi : (own_w q : Int) < z.toInt) (ev : vs.set (((q.toUInt32 >>> ((6 : Int32) &&& 31).toUInt32).toInt32)).toNatClampNeg (.long ((own_gl vs (((q.toUInt32 >>> ((6 : Int32) &&& 31).toUInt32).toInt32)).toNatClampNeg) &&& (((1 : Int64) <<< (q &&& 0x3f).toInt64) ^^^ (-1 : Int64)))) = vs') : own_cl z vs' R := by
  rw [← ev, own_wt]
  have c := h.2.2
  have hl : own_w q < vs.length := by rw [h.1, own_cn]; omega
  refine own_set h (own_w q) _ hl ?_ ?_
  · intro j hj
    rw [own_land, Bool.and_eq_true, c _ j hj, own_lnot _ j hj, own_bt q j hj]
    constructor
    · intro k
      obtain ⟨⟨r, r1, r2, r3⟩, e⟩ := k
      rcases List.mem_cons.mp r1 with m | m
      · rw [m] at r3
        rw [decide_eq_true r3.symm] at e
        exact absurd e (by decide)
      · exact ⟨r, m, r2, r3⟩
    · intro k
      obtain ⟨r, r1, r2, r3⟩ := k
      refine ⟨⟨r, List.mem_cons_of_mem _ r1, r2, r3⟩, ?_⟩
      have ne : ¬ j = own_j q := by
        intro f
        have e := own_eq r q r2 (r3.trans f)
        exact nd (by rw [← e]; exact r1)
      rw [decide_eq_false ne]; rfl
  · intro w j hw
    constructor
    · intro k
      obtain ⟨r, r1, r2⟩ := k
      exact ⟨r, List.mem_cons_of_mem _ r1, r2⟩
    · intro k
      obtain ⟨r, r1, r2, r3⟩ := k
      rcases List.mem_cons.mp r1 with m | m
      · rw [m] at r2
        exact absurd r2.symm hw
      · exact ⟨r, m, r2, r3⟩
theorem own_gd (d : Value) : ∀ (vs : List Value) (i : Nat), vs.length ≤ i → vs.getD i d = d := by
  intro vs
  induction vs with
  | nil => intro i _; first | rfl | simp
  | cons a l ih =>
    intro i h
    cases i with
    | zero => exact absurd h (Nat.not_succ_le_zero _)
    | succ k =>
      show l.getD k d = d
      exact ih k (Nat.le_of_succ_le_succ h)
theorem own_cpg (N z : Nat) (vs : List Value) (d : Value) (hz : z ≤ N) (hl : vs.length = z) : (own_cp N z vs d).length = N ∧ ∀ i, (own_cp N z vs d).getD i d = vs.getD i d := by
  have e : own_cp N z vs d = ((List.range z).map fun jx => vs.getD (0 + jx) d) ++ (List.replicate N d).drop (0 + z) := by
    unfold own_cp; rw [List.take_zero, List.nil_append]
  rw [e]
  constructor
  · rw [List.length_append, List.length_map, List.length_range, List.length_drop, List.length_replicate]; omega
  · intro i
    by_cases c : i < z
    · have g : (((List.range z).map fun jx => vs.getD (0 + jx) d) ++ (List.replicate N d).drop (0 + z))[i]? = some (vs.getD (0 + i) d) := by
        rw [List.getElem?_append_left (by rw [List.length_map, List.length_range]; exact c), List.getElem?_map, List.getElem?_range c]; rfl
      rw [List.getD_eq_getElem?_getD, g, Nat.zero_add]; rfl
    · have g : (((List.range z).map fun jx => vs.getD (0 + jx) d) ++ (List.replicate N d).drop (0 + z))[i]?.getD d = d := by
        rw [List.getElem?_append_right (by rw [List.length_map, List.length_range]; omega), List.getElem?_drop, List.getElem?_replicate]
        split <;> rfl
      rw [List.getD_eq_getElem?_getD, g, own_gd d vs i (by omega)]
theorem own_cpcl {z nl : Int32} {vs : List Value} {S : List Int32} (h : own_cl z vs S) (hz : z.toNatClampNeg ≤ nl.toNatClampNeg) : own_cl nl (own_cp nl.toNatClampNeg z.toNatClampNeg vs (.long (0 : Int64))) S := by
  obtain ⟨a, b, c⟩ := h
  obtain ⟨l, g⟩ := own_cpg nl.toNatClampNeg z.toNatClampNeg vs (.long (0 : Int64)) hz a
  have e : ∀ i, own_gl (own_cp nl.toNatClampNeg z.toNatClampNeg vs (.long (0 : Int64))) i = own_gl vs i := by
    intro i
    show own_gv ((own_cp nl.toNatClampNeg z.toNatClampNeg vs (.long (0 : Int64))).getD i (.long (0 : Int64))) = own_gv (vs.getD i (.long (0 : Int64)))
    rw [g i]
  refine ⟨l, ?_, ?_⟩
  · intro i; rw [g i, e i]; exact b i
  · intro w j hj; rw [e w]; exact c w j hj
theorem own_gr {z p wd nl : Int32} (hz : 1 ≤ z.toInt ∧ z.toInt ≤ 32768) (hp : own_ok p) (hwd : ((p.toUInt32 >>> ((6 : Int32) &&& 31).toUInt32).toInt32) = wd) (hnl : (if ((2 : Int32) * z) < (wd + (1 : Int32)) then (wd + (1 : Int32)) else ((2 : Int32) * z)) = nl) (hc : ¬ wd < z) : 2 * z.toInt ≤ nl.toInt ∧ nl.toInt ≤ 32768 ∧ (own_w p : Int) < nl.toInt := by
  have w := (own_wi p).1
  have w1 := own_w16 hp
  rw [hwd] at w
  have c' : ¬ wd.toInt < z.toInt := fun h => hc (own_lt32.mpr h)
  have m := Jvm.RoadKit.c_imul (2 : Int32) z
  have m' := Jvm.RoadKit.rng32 ((2 : Int32) * z)
  rw [own_z2] at m
  have a := Jvm.RoadKit.c_iadd wd (1 : Int32)
  have a' := Jvm.RoadKit.rng32 (wd + (1 : Int32))
  have e1 := own_z1
  by_cases d : ((2 : Int32) * z) < (wd + (1 : Int32))
  · have d' := own_lt32.mp d
    rw [if_pos d] at hnl
    rw [← hnl]; omega
  · have d' : ¬ ((2 : Int32) * z).toInt < (wd + (1 : Int32)).toInt := fun h => d (own_lt32.mpr h)
    rw [if_neg d] at hnl
    rw [← hnl]; omega
theorem own_cg {z p wd nl n : Int32} {vs vm : List Value} {S : List Int32} (hI : own_inv z vs vm n S) (hp : own_ok p) (hwd : ((p.toUInt32 >>> ((6 : Int32) &&& 31).toUInt32).toInt32) = wd) (hnl : (if ((2 : Int32) * z) < (wd + (1 : Int32)) then (wd + (1 : Int32)) else ((2 : Int32) * z)) = nl) (hc : ¬ wd < z) : own_cpre nl z := by
  have g := own_gr hI.2.1 hp hwd hnl hc
  have r := hI.2.1
  exact ⟨by omega, by omega, by omega⟩
theorem own_rm {z p wd nl n : Int32} {vs vm : List Value} {S : List Int32} (hI : own_inv z vs vm n S) (hp : own_ok p) (hwd : ((p.toUInt32 >>> ((6 : Int32) &&& 31).toUInt32).toInt32) = wd) (hnl : (if ((2 : Int32) * z) < (wd + (1 : Int32)) then (wd + (1 : Int32)) else ((2 : Int32) * z)) = nl) (hc : ¬ wd < z) : 0 + nl.toNatClampNeg ≤ own_NN z p := by
  unfold own_NN
  rw [hwd, if_neg hc, hnl]; omega
theorem own_ig {z p wd nl n : Int32} {vs vm : List Value} {S : List Int32} (hI : own_inv z vs vm n S) (hp : own_ok p) (hwd : ((p.toUInt32 >>> ((6 : Int32) &&& 31).toUInt32).toInt32) = wd) (hnl : (if ((2 : Int32) * z) < (wd + (1 : Int32)) then (wd + (1 : Int32)) else ((2 : Int32) * z)) = nl) (hc : ¬ wd < z) : (¬ (wd < (0 : Int32))) ∧ wd < nl := by
  have g := own_gr hI.2.1 hp hwd hnl hc
  have w := (own_wi p).1
  rw [hwd] at w
  rw [own_lt32, own_lt32, own_z0]; omega
theorem own_in {z p wd n : Int32} {vs vm : List Value} {S : List Int32} (hI : own_inv z vs vm n S) (hp : own_ok p) (hwd : ((p.toUInt32 >>> ((6 : Int32) &&& 31).toUInt32).toInt32) = wd) (hc : wd < z) : (¬ (wd < (0 : Int32))) ∧ wd < z := by
  have w := (own_wi p).1
  rw [hwd] at w
  refine ⟨?_, hc⟩
  rw [own_lt32, own_z0]; omega
theorem own_le2 {z p wd nl n : Int32} {vs vm : List Value} {S : List Int32} (hI : own_inv z vs vm n S) (hp : own_ok p) (hwd : ((p.toUInt32 >>> ((6 : Int32) &&& 31).toUInt32).toInt32) = wd) (hnl : (if ((2 : Int32) * z) < (wd + (1 : Int32)) then (wd + (1 : Int32)) else ((2 : Int32) * z)) = nl) (hc : ¬ wd < z) : z.toNatClampNeg ≤ nl.toNatClampNeg := by
  have g := own_gr hI.2.1 hp hwd hnl hc
  have r := hI.2.1
  rw [own_cn, own_cn]; omega
theorem own_gcl {z p wd nl n : Int32} {vs vm : List Value} {S : List Int32} (hI : own_inv z vs vm n S) (hp : own_ok p) (hwd : ((p.toUInt32 >>> ((6 : Int32) &&& 31).toUInt32).toInt32) = wd) (hnl : (if ((2 : Int32) * z) < (wd + (1 : Int32)) then (wd + (1 : Int32)) else ((2 : Int32) * z)) = nl) (hc : ¬ wd < z) : own_cl nl (own_cp nl.toNatClampNeg z.toNatClampNeg vs (.long (0 : Int64))) S := own_cpcl hI.1 (own_le2 hI hp hwd hnl hc)
theorem own_lg {z p wd nl n : Int32} {vs vm : List Value} {S : List Int32} (hI : own_inv z vs vm n S) (hp : own_ok p) (hwd : ((p.toUInt32 >>> ((6 : Int32) &&& 31).toUInt32).toInt32) = wd) (hnl : (if ((2 : Int32) * z) < (wd + (1 : Int32)) then (wd + (1 : Int32)) else ((2 : Int32) * z)) = nl) (hc : ¬ wd < z) (i : Nat) : (own_cp nl.toNatClampNeg z.toNatClampNeg vs (.long (0 : Int64))).getD i (.long (0 : Int64)) = .long (own_gl (own_cp nl.toNatClampNeg z.toNatClampNeg vs (.long (0 : Int64))) i) := (own_gcl hI hp hwd hnl hc).2.1 i
theorem own_jg {z p wd nl n : Int32} {vs vm : List Value} {S : List Int32} (hI : own_inv z vs vm n S) (hp : own_ok p) (hwd : ((p.toUInt32 >>> ((6 : Int32) &&& 31).toUInt32).toInt32) = wd) (hnl : (if ((2 : Int32) * z) < (wd + (1 : Int32)) then (wd + (1 : Int32)) else ((2 : Int32) * z)) = nl) (hc : ¬ wd < z) : wd.toNatClampNeg < (own_cp nl.toNatClampNeg z.toNatClampNeg vs (.long (0 : Int64))).length := by
  have g := own_gr hI.2.1 hp hwd hnl hc
  have w := (own_wi p).1
  rw [hwd] at w
  rw [(own_gcl hI hp hwd hnl hc).1, own_cn, own_cn]; omega
theorem own_jn {z p wd n : Int32} {vs vm : List Value} {S : List Int32} (hI : own_inv z vs vm n S) (hp : own_ok p) (hwd : ((p.toUInt32 >>> ((6 : Int32) &&& 31).toUInt32).toInt32) = wd) (hc : wd < z) : wd.toNatClampNeg < vs.length := by
  have w := (own_wi p).1
  rw [hwd] at w
  have c' := own_lt32.mp hc
  rw [hI.1.1, own_cn, own_cn]; omega
theorem own_nb {z n : Int32} {vs vm : List Value} {S : List Int32} (hI : own_inv z vs vm n S) (hS : S.length ≤ 5) : (¬ (n < (0 : Int32))) ∧ n < (16 : Int32) := by
  have e := hI.2.2.2.1
  rw [own_lt32, own_lt32, own_z0, own_z16]; omega
theorem own_nl {z n : Int32} {vs vm : List Value} {S : List Int32} (hI : own_inv z vs vm n S) (hS : S.length ≤ 5) : n.toNatClampNeg < vm.length := by
  have e := hI.2.2.2.1
  rw [hI.2.2.1, own_cn]; omega
theorem own_n16 {z n : Int32} {vs vm : List Value} {S : List Int32} (hI : own_inv z vs vm n S) (hS : S.length ≤ 5) : ¬ (n = (16 : Int32)) := by
  intro h
  have e := hI.2.2.2.1
  rw [h, own_z16] at e; omega
theorem own_rv {z : Int32} {vs : List Value} {S : List Int32} (h : own_cl z vs S) (p : Int32) : (if ((own_gl vs (((p.toUInt32 >>> ((6 : Int32) &&& 31).toUInt32).toInt32)).toNatClampNeg) &&& ((1 : Int64) <<< (p &&& 0x3f).toInt64)) = (0 : Int64) then (1 : Int32) else (0 : Int32)) = own_ret S p := by
  unfold own_ret
  by_cases m : p ∈ S
  · rw [if_neg (fun e => ((own_tst h p).mp e) m), if_pos m]
  · rw [if_pos ((own_tst h p).mpr m), if_neg m]
theorem own_r01 (S : List Int32) (p : Int32) : (own_ret S p &&& 1) = own_ret S p := by
  unfold own_ret
  by_cases m : p ∈ S
  · rw [if_pos m] <;> rfl
  · rw [if_neg m] <;> rfl
theorem own_rt_n {z p n : Int32} {vs vm : List Value} {S : List Int32} (hI : own_inv z vs vm n S) : some (Value.int ((if ((own_gl vs (((p.toUInt32 >>> ((6 : Int32) &&& 31).toUInt32).toInt32)).toNatClampNeg) &&& ((1 : Int64) <<< (p &&& 0x3f).toInt64)) = (0 : Int64) then (1 : Int32) else (0 : Int32)) &&& 1)) = some (Value.int (own_ret S p)) := by
  rw [own_rv hI.1 p, own_r01]
theorem own_rt_g {z p nl n : Int32} {vs vm : List Value} {S : List Int32} (hI : own_inv z vs vm n S) (hp : own_ok p) (hnl : (if ((2 : Int32) * z) < (((p.toUInt32 >>> ((6 : Int32) &&& 31).toUInt32).toInt32) + (1 : Int32)) then (((p.toUInt32 >>> ((6 : Int32) &&& 31).toUInt32).toInt32) + (1 : Int32)) else ((2 : Int32) * z)) = nl) (hc : ¬ ((p.toUInt32 >>> ((6 : Int32) &&& 31).toUInt32).toInt32) < z) : some (Value.int ((if ((own_gl (own_cp nl.toNatClampNeg z.toNatClampNeg vs (.long (0 : Int64))) (((p.toUInt32 >>> ((6 : Int32) &&& 31).toUInt32).toInt32)).toNatClampNeg) &&& ((1 : Int64) <<< (p &&& 0x3f).toInt64)) = (0 : Int64) then (1 : Int32) else (0 : Int32)) &&& 1)) = some (Value.int (own_ret S p)) := by
  rw [own_rv (own_gcl hI hp rfl hnl hc) p, own_r01]
theorem own_in0 {S : List Int32} {p : Int32} (h : own_ret S p = (0 : Int32)) : p ∈ S := by
  by_cases m : p ∈ S
  · exact m
  · unfold own_ret at h; rw [if_neg m] at h; exact absurd h (by decide)
theorem own_in1 {S : List Int32} {p : Int32} (h : ¬ own_ret S p = (0 : Int32)) : ¬ p ∈ S := by
  intro m; apply h; unfold own_ret; rw [if_pos m]
theorem own_apl (S : List Int32) (p : Int32) (i : Nat) (h : i < S.length) : (S ++ [p]).getD i 0 = S.getD i 0 := by
  rw [List.getD_eq_getElem?_getD, List.getD_eq_getElem?_getD, List.getElem?_append_left h]
theorem own_apr (S : List Int32) (p : Int32) : (S ++ [p]).getD S.length 0 = p := by
  rw [List.getD_eq_getElem?_getD, List.getElem?_append_right (Nat.le_refl _), Nat.sub_self]; rfl
theorem own_i0 {z p n : Int32} {vs vm : List Value} {S : List Int32} (hI : own_inv z vs vm n S) (hc60 : (if ((own_gl vs (((p.toUInt32 >>> ((6 : Int32) &&& 31).toUInt32).toInt32)).toNatClampNeg) &&& ((1 : Int64) <<< (p &&& 0x3f).toInt64)) = (0 : Int64) then (1 : Int32) else (0 : Int32)) = (0 : Int32)) : own_inv z vs vm n (own_addS S p) := by
  rw [own_rv hI.1 p] at hc60
  unfold own_addS
  rw [if_pos (own_in0 hc60)]
  exact hI
theorem own_i1 {z p n : Int32} {vs vm : List Value} {S : List Int32} (hI : own_inv z vs vm n S) (hp : own_ok p) (hS : S.length ≤ 5) (hw : (own_w p : Int) < z.toInt) (hc60 : ¬ (if ((own_gl vs (((p.toUInt32 >>> ((6 : Int32) &&& 31).toUInt32).toInt32)).toNatClampNeg) &&& ((1 : Int64) <<< (p &&& 0x3f).toInt64)) = (0 : Int64) then (1 : Int32) else (0 : Int32)) = (0 : Int32)) : own_inv z (vs.set (((p.toUInt32 >>> ((6 : Int32) &&& 31).toUInt32).toInt32)).toNatClampNeg (.long ((own_gl vs (((p.toUInt32 >>> ((6 : Int32) &&& 31).toUInt32).toInt32)).toNatClampNeg) ||| ((1 : Int64) <<< (p &&& 0x3f).toInt64)))) (vm.set n.toNatClampNeg (.int p)) (n + (1 : Int32)) (own_addS S p) := by
  rw [own_rv hI.1 p] at hc60
  have np := own_in1 hc60
  unfold own_addS
  rw [if_neg np]
  have hl : own_w p < vs.length := by rw [hI.1.1, own_cn]; omega
  have A := own_addcl hI.1 p hl
  obtain ⟨i1, i2, i3, i4, i5, i6, i7⟩ := hI
  have nn : n.toNatClampNeg = S.length := by rw [own_cn]; omega
  have g := Jvm.RoadKit.c_iadd n (1 : Int32)
  have g' := Jvm.RoadKit.rng32 (n + (1 : Int32))
  have e1 := own_z1
  have ln : (S ++ [p]).length = S.length + 1 := by rw [List.length_append]; rfl
  refine ⟨A, i2, by rw [List.length_set]; exact i3, by rw [ln]; omega, ?_, ?_, ?_⟩
  · intro i hi
    rw [ln] at hi
    rw [nn]
    by_cases c : i = S.length
    · rw [c, own_gs _ _ _ _ (by omega), own_apr]
    · rw [own_gn _ _ _ _ _ (fun e => c e.symm), own_apl S p i (by omega)]
      exact i5 i (by omega)
  · intro q hq
    rcases List.mem_append.mp hq with m | m
    · exact i6 q m
    · rw [List.mem_singleton.mp m]; exact ⟨hp, hw⟩
  · refine List.nodup_append.mpr ⟨i7, List.nodup_cons.mpr ⟨by simp, List.nodup_nil⟩, ?_⟩
    intro a ha b hb e
    rw [List.mem_singleton.mp hb] at e
    rw [e] at ha
    exact np ha
theorem own_gi9 {z p nl n : Int32} {vs vm : List Value} {S : List Int32} (hI : own_inv z vs vm n S) (hp : own_ok p) (hnl : (if ((2 : Int32) * z) < (((p.toUInt32 >>> ((6 : Int32) &&& 31).toUInt32).toInt32) + (1 : Int32)) then (((p.toUInt32 >>> ((6 : Int32) &&& 31).toUInt32).toInt32) + (1 : Int32)) else ((2 : Int32) * z)) = nl) (hc : ¬ ((p.toUInt32 >>> ((6 : Int32) &&& 31).toUInt32).toInt32) < z) : own_inv nl (own_cp nl.toNatClampNeg z.toNatClampNeg vs (.long (0 : Int64))) vm n S := by
  have g := own_gr hI.2.1 hp rfl hnl hc
  have A := own_gcl hI hp rfl hnl hc
  obtain ⟨i1, i2, i3, i4, i5, i6, i7⟩ := hI
  refine ⟨A, by omega, i3, i4, i5, ?_, i7⟩
  intro q hq
  have h := i6 q hq
  exact ⟨h.1, by omega⟩
theorem own_wz {z p : Int32} (hc : ((p.toUInt32 >>> ((6 : Int32) &&& 31).toUInt32).toInt32) < z) : (own_w p : Int) < z.toInt := by
  have w := (own_wi p).1
  have c' := own_lt32.mp hc
  omega
theorem own_pot_n {z p n : Int32} {vs vm : List Value} {S : List Int32} (hI : own_inv z vs vm n S) (hp : own_ok p) (hc : ((p.toUInt32 >>> ((6 : Int32) &&& 31).toUInt32).toInt32) < z) : own_NN z p + 2 * z.toNatClampNeg ≤ 2 * z.toNatClampNeg := by
  unfold own_NN; rw [if_pos hc]; omega
theorem own_pot_g {z p nl n : Int32} {vs vm : List Value} {S : List Int32} (hI : own_inv z vs vm n S) (hp : own_ok p) (hnl : (if ((2 : Int32) * z) < (((p.toUInt32 >>> ((6 : Int32) &&& 31).toUInt32).toInt32) + (1 : Int32)) then (((p.toUInt32 >>> ((6 : Int32) &&& 31).toUInt32).toInt32) + (1 : Int32)) else ((2 : Int32) * z)) = nl) (hc : ¬ ((p.toUInt32 >>> ((6 : Int32) &&& 31).toUInt32).toInt32) < z) : own_NN z p + 2 * z.toNatClampNeg ≤ 2 * nl.toNatClampNeg := by
  have g := own_gr hI.2.1 hp rfl hnl hc
  have r := hI.2.1
  unfold own_NN
  rw [if_neg hc, hnl, own_cn, own_cn]; omega
theorem own_NNle {z p n : Int32} {vs vm : List Value} {S : List Int32} (hI : own_inv z vs vm n S) (hp : own_ok p) : own_NN z p ≤ 32768 := by
  unfold own_NN
  by_cases hc : ((p.toUInt32 >>> ((6 : Int32) &&& 31).toUInt32).toInt32) < z
  · rw [if_pos hc]; omega
  · have g := own_gr hI.2.1 hp rfl rfl hc
    rw [if_neg hc, own_cn]; omega
theorem own_room {z p n : Int32} {vs vm : List Value} {S : List Int32} (hI : own_inv z vs vm n S) (hp : own_ok p) : (40 + 2 * z.toNatClampNeg) + own_NN z p ≤ 98432 := by
  have a := own_NNle hI hp
  have r := hI.2.1
  rw [own_cn]; omega
theorem own_pot2 {a b c : Nat} (h : a + 2 * b ≤ 2 * c) : (40 + 2 * b) + a ≤ 40 + 2 * c := by omega
theorem own_fin {z n : Int32} {vs vm : List Value} {S : List Int32} (hI : own_inv z vs vm n S) : 40 + 2 * z.toNatClampNeg ≤ 98432 := by
  have r := hI.2.1
  rw [own_cn]; omega
theorem own_fin0 {z n : Int32} {vs vm : List Value} {S : List Int32} (hI : own_inv z vs vm n S) : (40 + 2 * z.toNatClampNeg) + 0 ≤ 98432 := own_fin hI
theorem own_okp {p y : Int32} (h : (p &&& (1048575 : Int32)) = y) : own_ok y := by
  have t := Jvm.RoadKit.c_mask p (1048575 : Int32) 20 (by decide) (by decide)
  rw [h] at t
  unfold own_ok
  rw [t]; omega
theorem own_and3 (p : Int32) : (p &&& (3 : Int32)) = (0 : Int32) ∨ (p &&& (3 : Int32)) = (1 : Int32) ∨ (p &&& (3 : Int32)) = (2 : Int32) ∨ (p &&& (3 : Int32)) = (3 : Int32) := by
  have t := Jvm.RoadKit.c_mask p (3 : Int32) 2 (by decide) (by decide)
  generalize (p &&& (3 : Int32)) = n at t ⊢
  simp only [← Int32.toInt_inj]
  show n.toInt = 0 ∨ n.toInt = 1 ∨ n.toInt = 2 ∨ n.toInt = 3
  omega
theorem own_n3 {z n : Int32} {vs vm : List Value} {S : List Int32} (hI : own_inv z vs vm n S) (hS : S.length ≤ 3) : n = (0 : Int32) ∨ n = (1 : Int32) ∨ n = (2 : Int32) ∨ n = (3 : Int32) := by
  have t := hI.2.2.2.1
  simp only [← Int32.toInt_inj]
  show n.toInt = 0 ∨ n.toInt = 1 ∨ n.toInt = 2 ∨ n.toInt = 3
  omega
theorem own_mg {z n k : Int32} {vs vm : List Value} {S : List Int32} (hI : own_inv z vs vm n S) (hn : n = k) (i : Nat) (hi : (i : Int) < k.toInt) : vm.getD i (.int (0 : Int32)) = .int (own_mem vm i) := by
  have l := hI.2.2.2.1
  rw [hn] at l
  unfold own_mem
  rw [hI.2.2.2.2.1 i (by omega)] <;> rfl
theorem own_s0 {z n : Int32} {vs vm : List Value} {S : List Int32} (hI : own_inv z vs vm n S) (hn : n = (0 : Int32)) : S = [] := by
  have l := hI.2.2.2.1
  rw [hn, own_z0] at l
  exact List.eq_nil_of_length_eq_zero (by omega)
theorem own_sg {vm : List Value} {S : List Int32} (E : ∀ i, i < S.length → vm.getD i (.int (0 : Int32)) = .int (S.getD i 0)) (i : Nat) (h : i < S.length) : own_mem vm i = S.getD i 0 := by
  unfold own_mem; rw [E i h] <;> rfl
theorem own_l1 {S : List Int32} (h : S.length = 1) : S = [S.getD 0 0] := by
  match S, h with
  | [a], _ => rfl
theorem own_l2 {S : List Int32} (h : S.length = 2) : S = [S.getD 0 0, S.getD 1 0] := by
  match S, h with
  | [a, b], _ => rfl
theorem own_l3 {S : List Int32} (h : S.length = 3) : S = [S.getD 0 0, S.getD 1 0, S.getD 2 0] := by
  match S, h with
  | [a, b, c], _ => rfl
theorem own_s1 {z n : Int32} {vs vm : List Value} {S : List Int32} (hI : own_inv z vs vm n S) (hn : n = (1 : Int32)) : S = [own_mem vm 0] := by
  have l := hI.2.2.2.1
  rw [hn, own_z1] at l
  have l' : S.length = 1 := by omega
  rw [own_sg hI.2.2.2.2.1 0 (by omega)]
  exact own_l1 l'
theorem own_s2 {z n : Int32} {vs vm : List Value} {S : List Int32} (hI : own_inv z vs vm n S) (hn : n = (2 : Int32)) : S = [own_mem vm 0, own_mem vm 1] := by
  have l := hI.2.2.2.1
  rw [hn, own_z2] at l
  have l' : S.length = 2 := by omega
  rw [own_sg hI.2.2.2.2.1 0 (by omega), own_sg hI.2.2.2.2.1 1 (by omega)]
  exact own_l2 l'
theorem own_s3 {z n : Int32} {vs vm : List Value} {S : List Int32} (hI : own_inv z vs vm n S) (hn : n = (3 : Int32)) : S = [own_mem vm 0, own_mem vm 1, own_mem vm 2] := by
  have l := hI.2.2.2.1
  have e3 : (3 : Int32).toInt = 3 := rfl
  rw [hn, e3] at l
  have l' : S.length = 3 := by omega
  rw [own_sg hI.2.2.2.2.1 0 (by omega), own_sg hI.2.2.2.2.1 1 (by omega), own_sg hI.2.2.2.2.1 2 (by omega)]
  exact own_l3 l'
theorem own_k0 {z n : Int32} {vs vm : List Value} {S : List Int32} (hI : own_inv z vs vm n S) (hn : n = (0 : Int32)) : own_cl z vs [] := by
  have e := own_s0 hI hn
  have h := hI.1
  rw [e] at h
  exact h
theorem own_k1 {z n : Int32} {vs vm : List Value} {S : List Int32} (hI : own_inv z vs vm n S) (hn : n = (1 : Int32)) : own_cl z vs [own_mem vm 0] ∧ (own_w (own_mem vm 0) : Int) < z.toInt ∧ ¬ own_mem vm 0 ∈ ([] : List Int32) := by
  have e := own_s1 hI hn
  have h := hI.1
  have m := hI.2.2.2.2.2.1
  rw [e] at h m
  exact ⟨h, (m (own_mem vm 0) (by simp)).2, by simp⟩
theorem own_k2 {z n : Int32} {vs vm : List Value} {S : List Int32} (hI : own_inv z vs vm n S) (hn : n = (2 : Int32)) : own_cl z vs [own_mem vm 0, own_mem vm 1] ∧ (own_w (own_mem vm 0) : Int) < z.toInt ∧ (¬ own_mem vm 0 ∈ [own_mem vm 1]) ∧ (own_w (own_mem vm 1) : Int) < z.toInt ∧ ¬ own_mem vm 1 ∈ ([] : List Int32) := by
  have e := own_s2 hI hn
  have h := hI.1
  have m := hI.2.2.2.2.2.1
  have d := hI.2.2.2.2.2.2
  rw [e] at h m d
  have d0 := (List.nodup_cons.mp d).1
  exact ⟨h, (m (own_mem vm 0) (by simp)).2, d0, (m (own_mem vm 1) (by simp)).2, by simp⟩
theorem own_k3 {z n : Int32} {vs vm : List Value} {S : List Int32} (hI : own_inv z vs vm n S) (hn : n = (3 : Int32)) : own_cl z vs [own_mem vm 0, own_mem vm 1, own_mem vm 2] ∧ (own_w (own_mem vm 0) : Int) < z.toInt ∧ (¬ own_mem vm 0 ∈ [own_mem vm 1, own_mem vm 2]) ∧ (own_w (own_mem vm 1) : Int) < z.toInt ∧ (¬ own_mem vm 1 ∈ [own_mem vm 2]) ∧ (own_w (own_mem vm 2) : Int) < z.toInt ∧ ¬ own_mem vm 2 ∈ ([] : List Int32) := by
  have e := own_s3 hI hn
  have h := hI.1
  have m := hI.2.2.2.2.2.1
  have d := hI.2.2.2.2.2.2
  rw [e] at h m d
  have d0 := List.nodup_cons.mp d
  have d1 := (List.nodup_cons.mp d0.2).1
  exact ⟨h, (m (own_mem vm 0) (by simp)).2, d0.1, (m (own_mem vm 1) (by simp)).2, d1, (m (own_mem vm 2) (by simp)).2, by simp⟩
theorem own_mw {z q : Int32} (h : (own_w q : Int) < z.toInt) : (¬ (((q.toUInt32 >>> ((6 : Int32) &&& 31).toUInt32).toInt32) < (0 : Int32))) ∧ ((q.toUInt32 >>> ((6 : Int32) &&& 31).toUInt32).toInt32) < z := by
  have w := (own_wi q).1
  rw [own_lt32, own_lt32, own_z0]; omega
theorem own_ml {z q : Int32} {vs : List Value} {R : List Int32} (h : own_cl z vs R) (hw : (own_w q : Int) < z.toInt) : (((q.toUInt32 >>> ((6 : Int32) &&& 31).toUInt32).toInt32)).toNatClampNeg < vs.length := by
  rw [h.1, own_wt, own_cn]; omega
theorem own_clr {z n : Int32} {vs vs' vm : List Value} {S : List Int32} (hI : own_inv z vs vm n S) (h : own_cl z vs' []) : own_inv z vs' vm (0 : Int32) [] := by
  refine ⟨h, hI.2.1, hI.2.2.1, rfl, ?_, ?_, List.nodup_nil⟩
  · intro i hi; exact absurd hi (Nat.not_lt_zero _)
  · intro q hq; exact absurd hq (by simp)
theorem own_inv0 : own_inv (1 : Int32) [(.long (0 : Int64))] [(.int (0 : Int32)), (.int (0 : Int32)), (.int (0 : Int32)), (.int (0 : Int32)), (.int (0 : Int32)), (.int (0 : Int32)), (.int (0 : Int32)), (.int (0 : Int32)), (.int (0 : Int32)), (.int (0 : Int32)), (.int (0 : Int32)), (.int (0 : Int32)), (.int (0 : Int32)), (.int (0 : Int32)), (.int (0 : Int32)), (.int (0 : Int32))] (0 : Int32) [] := by
  have e : ∀ i : Nat, ([(.long (0 : Int64))] : List Value).getD i (.long (0 : Int64)) = .long (0 : Int64) := by
    intro i
    cases i with
    | zero => rfl
    | succ k => exact own_gd _ _ _ (Nat.succ_le_succ (Nat.zero_le k))
  have g : ∀ i : Nat, own_gl [(.long (0 : Int64))] i = (0 : Int64) := by
    intro i
    show own_gv (([(.long (0 : Int64))] : List Value).getD i (.long (0 : Int64))) = (0 : Int64)
    rw [e i] <;> rfl
  refine ⟨⟨rfl, ?_, ?_⟩, by decide, rfl, rfl, ?_, ?_, List.nodup_nil⟩
  · intro i; rw [e i, g i]
  · intro w j hj
    rw [g w, own_z64]
    constructor
    · intro h; exact absurd h (by decide)
    · intro h; obtain ⟨q, q1, q2⟩ := h; exact absurd q1 (by simp)
  · intro i hi; exact absurd hi (Nat.not_lt_zero _)
  · intro q hq; exact absurd hq (by simp)
theorem own_al (S : List Int32) (p : Int32) : (own_addS S p).length ≤ S.length + 1 := by
  unfold own_addS
  by_cases m : p ∈ S
  · rw [if_pos m]; omega
  · rw [if_neg m, List.length_append]; exact Nat.le_refl _
theorem own_e0 : ([] : List Int32).length ≤ 5 := by decide
theorem own_e1 (a : Int32) : (own_addS [] a).length ≤ 5 := by
  have h := own_al [] a
  have e : ([] : List Int32).length = 0 := rfl
  omega
theorem own_e2 (a b : Int32) : (own_addS (own_addS [] a) b).length ≤ 5 := by
  have h := own_al [] a
  have h2 := own_al (own_addS [] a) b
  have e : ([] : List Int32).length = 0 := rfl
  omega
theorem own_e0c : ([] : List Int32).length ≤ 3 := by decide
theorem own_e1c (a : Int32) : (own_addS [] a).length ≤ 3 := by
  have h := own_al [] a
  have e : ([] : List Int32).length = 0 := rfl
  omega
theorem own_e2c (a b : Int32) : (own_addS (own_addS [] a) b).length ≤ 3 := by
  have h := own_al [] a
  have h2 := own_al (own_addS [] a) b
  have e : ([] : List Int32).length = 0 := rfl
  omega
theorem own_e3c (a b c : Int32) : (own_addS (own_addS (own_addS [] a) b) c).length ≤ 3 := by
  have h := own_al [] a
  have h2 := own_al (own_addS [] a) b
  have h3 := own_al (own_addS (own_addS [] a) b) c
  have e : ([] : List Int32).length = 0 := rfl
  omega
theorem own_inv_len {z n : Int32} {vs vm : List Value} {S : List Int32} (hI : own_inv z vs vm n S) : own_ln S = n := by
  have l := hI.2.2.2.1
  have r := Jvm.RoadKit.rng32 n
  unfold own_ln
  apply Int32.toInt_inj.mp
  rw [Int32.toInt_ofNat_of_lt (by omega), l]
theorem own_last9 {xa ya wa a b c n v1 v2 v3 v4 v5 v6 f : Int32} (h1 : own_ret [] ya = a) (h2 : own_ret (own_addS [] ya) xa = b) (h3 : own_ret (own_addS (own_addS [] ya) xa) wa = c) (h4 : own_ln (own_addS (own_addS (own_addS [] ya) xa) wa) = n)
    (k1 : (if a = (0 : Int32) then (0 : Int32) else (1 : Int32)) = v1) (k2 : (if v1 = (0 : Int32) then (0 : Int32) else (if b = (if xa = ya then (0 : Int32) else (1 : Int32)) then (1 : Int32) else (0 : Int32))) = v2) (k3 : (if wa = xa then (0 : Int32) else (if wa = ya then (0 : Int32) else (1 : Int32))) = v3) (k4 : (if v2 = (0 : Int32) then (0 : Int32) else (if c = v3 then (1 : Int32) else (0 : Int32))) = v4) (k5 : (if xa = ya then (1 : Int32) else (2 : Int32)) = v5) (k6 : (if v3 = (0 : Int32) then v5 else (v5 + (1 : Int32))) = v6) (k7 : (if v4 = (0 : Int32) then (0 : Int32) else (if n = v6 then (1 : Int32) else (0 : Int32))) = f) : (f &&& 1) = (1 : Int32) := by
  have A0 : own_addS [] ya = [ya] := by unfold own_addS; rw [if_neg (by simp)] <;> rfl
  have R0 : own_ret [] ya = (1 : Int32) := by unfold own_ret; rw [if_neg (by simp)]
  rw [A0] at h2 h3 h4
  rw [R0] at h1
  have AY : ∀ (S : List Int32) (q : Int32), q ∈ S → own_addS S q = S ∧ own_ret S q = (0 : Int32) := by
    intro S q m; unfold own_addS own_ret; rw [if_pos m, if_pos m]; exact ⟨rfl, rfl⟩
  have AN : ∀ (S : List Int32) (q : Int32), ¬ q ∈ S → own_addS S q = S ++ [q] ∧ own_ret S q = (1 : Int32) := by
    intro S q m; unfold own_addS own_ret; rw [if_neg m, if_neg m]; exact ⟨rfl, rfl⟩
  have L1 : ∀ a : Int32, own_ln [a] = (1 : Int32) := fun a => rfl
  have L2 : ∀ a b : Int32, own_ln [a, b] = (2 : Int32) := fun a b => rfl
  have L3 : ∀ a b c : Int32, own_ln [a, b, c] = (3 : Int32) := fun a b c => rfl
  by_cases c1 : xa = ya
  · obtain ⟨A1, R1⟩ := AY [ya] xa (by rw [c1]; exact List.mem_cons_self ..)
    rw [A1] at h3 h4
    rw [R1] at h2
    rw [if_pos c1] at k2 k5
    by_cases c2 : wa = ya
    · obtain ⟨A2, R2⟩ := AY [ya] wa (by rw [c2]; exact List.mem_cons_self ..)
      rw [A2, L1] at h4
      rw [R2] at h3
      rw [if_pos (c2.trans c1.symm)] at k3
      subst h1 h2 h3 h4 k1 k2 k3 k4 k5 k6 k7
      decide
    · obtain ⟨A2, R2⟩ := AN [ya] wa (by simp [c2])
      rw [A2] at h4
      have h4' : (2 : Int32) = n := h4
      rw [R2] at h3
      rw [if_neg (fun e => c2 (e.trans c1)), if_neg c2] at k3
      subst h1 h2 h3 h4' k1 k2 k3 k4 k5 k6 k7
      decide
  · obtain ⟨A1, R1⟩ := AN [ya] xa (by simp [c1])
    have A1' : own_addS [ya] xa = [ya, xa] := A1
    rw [A1'] at h3 h4
    rw [R1] at h2
    rw [if_neg c1] at k2 k5
    by_cases c2 : wa = ya
    · obtain ⟨A2, R2⟩ := AY [ya, xa] wa (by simp [c2])
      rw [A2, L2] at h4
      rw [R2] at h3
      rw [if_neg (fun e => c1 (e.symm.trans c2)), if_pos c2] at k3
      subst h1 h2 h3 h4 k1 k2 k3 k4 k5 k6 k7
      decide
    · by_cases c3 : wa = xa
      · obtain ⟨A2, R2⟩ := AY [ya, xa] wa (by simp [c3])
        rw [A2, L2] at h4
        rw [R2] at h3
        rw [if_pos c3] at k3
        subst h1 h2 h3 h4 k1 k2 k3 k4 k5 k6 k7
        decide
      · obtain ⟨A2, R2⟩ := AN [ya, xa] wa (by simp [c2, c3])
        rw [A2] at h4
        have h4' : (3 : Int32) = n := h4
        rw [R2] at h3
        rw [if_neg c3, if_neg c2] at k3
        subst h1 h2 h3 h4' k1 k2 k3 k4 k5 k6 k7
        decide

theorem d1_0 : decode prog_83_method_1_code 0 = .ok (.aload_n 0, 1) := by decide +kernel
theorem d1_1 : decode prog_83_method_1_code 1 = .ok (.invokespecial 1, 3) := by decide +kernel
theorem d1_4 : decode prog_83_method_1_code 4 = .ok (.aload_n 0, 1) := by decide +kernel
theorem d1_5 : decode prog_83_method_1_code 5 = .ok (.iconst 1, 1) := by decide +kernel
theorem d1_6 : decode prog_83_method_1_code 6 = .ok (.newarray .long, 2) := by decide +kernel
theorem d1_8 : decode prog_83_method_1_code 8 = .ok (.putfield 7, 3) := by decide +kernel
theorem d1_11 : decode prog_83_method_1_code 11 = .ok (.aload_n 0, 1) := by decide +kernel
theorem d1_12 : decode prog_83_method_1_code 12 = .ok (.bipush 16, 2) := by decide +kernel
theorem d1_14 : decode prog_83_method_1_code 14 = .ok (.newarray .int, 2) := by decide +kernel
theorem d1_16 : decode prog_83_method_1_code 16 = .ok (.putfield 13, 3) := by decide +kernel
def Q_rm1 (Z : State) (o0 : Addr) (w_size : Int32) (u2_bits : Value) (u3_members : Value) (h0 : Heap) (n0 : Nat) (v : Option Value) (h : Heap) (L : List Loc) : Prop := ∃ b5 : Addr, ∃ b12 : Addr, ∃ k5 : ClassId, ∃ k12 : ClassId, v = none ∧ Fr n0 L ∧ Keep h0 h [o0] ∧ Exa Z h o0 "com/example/futures_from_states/futuresfromstates/model/StateSet" ∧ Fld Z h o0 "com/example/futures_from_states/futuresfromstates/model/StateSet" "size" "I" (.int w_size) ∧ Arv Z h b5 k5 .long (1 : Int32) [(.long (0 : Int64))] (.long (0 : Int64)) ∧ Exa Z h b5 "[J" ∧ Fld Z h o0 "com/example/futures_from_states/futuresfromstates/model/StateSet" "bits" "[J" (.ref b5) ∧ Arv Z h b12 k12 .int (16 : Int32) [(.int (0 : Int32)), (.int (0 : Int32)), (.int (0 : Int32)), (.int (0 : Int32)), (.int (0 : Int32)), (.int (0 : Int32)), (.int (0 : Int32)), (.int (0 : Int32)), (.int (0 : Int32)), (.int (0 : Int32)), (.int (0 : Int32)), (.int (0 : Int32)), (.int (0 : Int32)), (.int (0 : Int32)), (.int (0 : Int32)), (.int (0 : Int32))] (.int (0 : Int32)) ∧ Exa Z h b12 "[I" ∧ Fld Z h o0 "com/example/futures_from_states/futuresfromstates/model/StateSet" "members" "[I" (.ref b12) ∧ h0.size ≤ b5 ∧ h0.size ≤ b12 ∧ b5 ≠ b12
theorem pn_1 : plainName "com/example/futures_from_states/futuresfromstates/model/StateSet" = true := by first | (simp [plainName, overriddenIn]; done) | decide +kernel
theorem ef_1 (m : MethodId) (x0 : Addr) : entryFrame m #[(.ref x0)] 1 = mkF m 0 #[.val (.ref x0)] [] := by first | (simp [entryFrame, mkF, argsToLocals, Value.category]; done) | rfl
theorem d1_19 : decode prog_83_method_1_code 19 = .ok (.return_, 1) := by decide +kernel
set_option maxRecDepth 65536 in
set_option maxHeartbeats 40000000 in
theorem rm1 (l : Launch) (Z : State) (a0 : Array Value) (hw : ∀ d ∈ tables_1, d.before a0 Z = true) (ws : List Jvm.Cond) (o0 : Addr) (w_size : Int32) (u2_bits : Value) (u3_members : Value) (h0 : Heap) (n0 : Nat) (Z0 : n0 ≤ h0.size) (E_o0 : Exa Z h0 o0 "com/example/futures_from_states/futuresfromstates/model/StateSet") (F_size_o0 : Fld Z h0 o0 "com/example/futures_from_states/futuresfromstates/model/StateSet" "size" "I" (.int w_size)) (g_o0 : n0 ≤ o0) (F_bits_o0 : Fld Z h0 o0 "com/example/futures_from_states/futuresfromstates/model/StateSet" "bits" "[J" u2_bits) (F_members_o0 : Fld Z h0 o0 "com/example/futures_from_states/futuresfromstates/model/StateSet" "members" "[I" u3_members) :
    MetFree l (⟨"com/example/futures_from_states/futuresfromstates/model/StateSet", "<init>", "()V"⟩ : MethodName) (head1 (Jvm.Cond.code (⟨"com/example/futures_from_states/futuresfromstates/model/StateSet", "<init>", "()V"⟩ : MethodName) prog_83_method_1_code 1 none :: ws) ({ frames := 1, cells := 2, slots := 17, locals := 12 } : Room)) (fun a U => a = #[(.ref o0)] ∧ Z.Warmed39 U.vm ∧ U.heap = h0) (fun _ _ _ _ _ => True) (fun _ U o U' => ∃ v L, o = .returned v ∧ Q_rm1 Z o0 w_size u2_bits u3_members h0 n0 v U'.heap L ∧ FrameEnd U o U' L ({ frames := 1, cells := 2, slots := 17, locals := 12 } : Room).cells ({ frames := 1, cells := 2, slots := 17, locals := 12 } : Room).slots) := by
  refine MetFree.of_bodySF (plainFor_of_name pn_1) hisR ?_
  intro p e s m args below meth c s₁ Bd hml0 hP hK
  obtain ⟨rfl, hZ, hh⟩ := hP
  have hx := Bd.exec
  have hby := Bd.bytes
  have hml : c.maxLocals = 1 := hml0
  have hown : s.vm.findClass "com/example/futures_from_states/futuresfromstates/model/StateSet" = some m.cls := findClass_of_methodNamed Bd.named
  have hnm := (name_of_methodNamed Bd.named Bd.method).1
  have X0 : Stand p l e ({ frames := 1, cells := 2, slots := 17, locals := 12 } : Room) s m #[(.ref o0)] below meth c s₁ [] 0 0 := Stand.of_body Bd
  have e0 : s₁.heap = h0 := by rw [← hh, Bd.state]; rfl
  have N0 := Fr.nil n0
  have Kp0 : Keep h0 h0 [o0] := Keep.refl _ _
  have K0 : Steps p.tables e below (s₁.setTop (entryFrame m #[(.ref o0)] 1)) (s₁.setTop (mkF m 0 #[.val (.ref o0)] [])) := castTop (ef_1 m o0) (Steps.refl _)
  have K1 : Steps p.tables e below _ (s₁.setTop (mkF m 1 #[.val (.ref o0)] [(.ref o0)])) := K0.trans (by
    show Steps p.tables e below (s₁.setTop (mkF m 0 #[.val (.ref o0)] [])) _
    refine XS.aloadN X0.here hx rfl (hb hby d1_0) rfl rfl ?_
    show Steps p.tables e below (s₁.setTop (mkF m 1 #[.val (.ref o0)] [(.ref o0)])) _
    exact Steps.refl _)
  obtain ⟨T2, X2, e2, st2⟩ := initO X0 hx hZ hown (hw _ (List.mem_of_getElem? (i := 7) rfl)) (hw _ (List.mem_of_getElem? (i := 8) rfl)) (hw _ (List.mem_of_getElem? (i := 9) rfl)) e0 (g := (mkF m 1 #[.val (.ref o0)] [(.ref o0)])) rfl (by rw [hml]; rfl) rfl (hb hby d1_1) (by decide) (W := 0) (by show 2 * 0 + _ ≤ _; exact Nat.le_of_eq rfl) (by decide)
  have K3 : Steps p.tables e below _ (T2.setTop (mkF m 4 #[.val (.ref o0)] [])) := K1.trans (st2 _ (Steps.refl _))
  have K4 : Steps p.tables e below _ (T2.setTop (mkF m 6 #[.val (.ref o0)] [(.int (1 : Int32)), (.ref o0)])) := K3.trans (by
    show Steps p.tables e below (T2.setTop (mkF m 4 #[.val (.ref o0)] [])) _
    refine XS.aloadN X2.here hx rfl (hb hby d1_4) rfl rfl ?_
    show Steps p.tables e below (T2.setTop (mkF m 5 #[.val (.ref o0)] [(.ref o0)])) _
    refine XS.iconst X2.here hx rfl (hb hby d1_5) ?_
    show Steps p.tables e below (T2.setTop (mkF m 6 #[.val (.ref o0)] [(.int (1 : Int32)), (.ref o0)])) _
    exact Steps.refl _)
  obtain ⟨T5, h5, k5, b5, X5, e5, E5, g5, V5, A5, st5⟩ := own_newJ X2 hx hZ (hw _ (List.mem_of_getElem? (i := 10) rfl)) e2 (g := (mkF m 6 #[.val (.ref o0)] [(.int (1 : Int32)), (.ref o0)])) rfl (hb hby d1_6) rfl (by decide) 1 (by decide) (by decide) (by decide) (by decide)
  have ne_o0_b5 : o0 ≠ b5 := Nat.ne_of_lt (Nat.lt_of_lt_of_le E_o0.lt (Nat.le_of_eq g5.symm))
  have ge_b5 : n0 ≤ b5 := Nat.le_trans Z0 (Nat.le_of_eq g5.symm)
  have sz_b5 : h0.size ≤ b5 := Nat.le_trans Kp0.1 (Nat.le_of_eq g5.symm)
  have K6 : Steps p.tables e below _ (T5.setTop (mkF m 8 #[.val (.ref o0)] [(.ref b5), (.ref o0)])) := K4.trans st5
  have Vn5 : Arv Z h5 b5 k5 .long (1 : Int32) [(.long (0 : Int64))] (.long (0 : Int64)) := V5
  have E_7 : Exa Z h5 o0 "com/example/futures_from_states/futuresfromstates/model/StateSet" := (E_o0.ext E5)
  have F_8 : Fld Z h5 o0 "com/example/futures_from_states/futuresfromstates/model/StateSet" "bits" "[J" u2_bits := (F_bits_o0.ext E5)
  obtain ⟨T9, h9, X9, e9, W9, st9⟩ := putF X5 hx hZ hown (host := "") (Or.inl (hw _ (List.mem_of_getElem? (i := 11) rfl))) Via.refl e5 F_8 E_7 (Or.inl (hw _ (List.mem_of_getElem? (i := 12) rfl))) (hw _ (List.mem_of_getElem? (i := 2) rfl)) (ty := (.array .long)) (by decide) rfl rfl (g := (mkF m 8 #[.val (.ref o0)] [(.ref b5), (.ref o0)])) rfl rfl (hb hby d1_8)
  have K10 : Steps p.tables e below _ (T9.setTop (mkF m 11 #[.val (.ref o0)] [])) := K6.trans (st9 _ (Steps.refl _))
  have Fw9 : Fld Z h9 o0 "com/example/futures_from_states/futuresfromstates/model/StateSet" "bits" "[J" (.ref b5) := F_8.same W9
  have N9 := Fr.snoc X9 N0 g_o0
  have K11 : Steps p.tables e below _ (T9.setTop (mkF m 14 #[.val (.ref o0)] [(.int (16 : Int32)), (.ref o0)])) := K10.trans (by
    show Steps p.tables e below (T9.setTop (mkF m 11 #[.val (.ref o0)] [])) _
    refine XS.aloadN X9.here hx rfl (hb hby d1_11) rfl rfl ?_
    show Steps p.tables e below (T9.setTop (mkF m 12 #[.val (.ref o0)] [(.ref o0)])) _
    refine XS.bipush X9.here hx rfl (hb hby d1_12) ?_
    show Steps p.tables e below (T9.setTop (mkF m 14 #[.val (.ref o0)] [(.int (16 : Int32)), (.ref o0)])) _
    exact Steps.refl _)
  have Z_13 : n0 ≤ h9.size := (Nat.le_trans (Nat.le_trans Z0 E5.1) (Keep.of_wr W9).1)
  have K_14 : Keep h0 h9 [o0] := ((Kp0.ext E5).wr W9 (Or.inl (List.mem_of_getElem? (i := 0) rfl)))
  obtain ⟨T12, h12, k12, b12, X12, e12, E12, g12, V12, A12, st12⟩ := own_newI X9 hx hZ (hw _ (List.mem_of_getElem? (i := 13) rfl)) e9 (g := (mkF m 14 #[.val (.ref o0)] [(.int (16 : Int32)), (.ref o0)])) rfl (hb hby d1_14) rfl (by decide) 16 (by decide) (by decide) (by decide) (by decide)
  have E_15 : Exa Z h9 o0 "com/example/futures_from_states/futuresfromstates/model/StateSet" := (E_7.wr W9)
  have ne_o0_b12 : o0 ≠ b12 := Nat.ne_of_lt (Nat.lt_of_lt_of_le E_15.lt (Nat.le_of_eq g12.symm))
  have V_16 : Arv Z h9 b5 k5 .long (1 : Int32) [(.long (0 : Int64))] (.long (0 : Int64)) := (Vn5.other W9 (Ne.symm ne_o0_b5))
  have ne_b5_b12 : b5 ≠ b12 := Nat.ne_of_lt (Nat.lt_of_lt_of_le V_16.lt (Nat.le_of_eq g12.symm))
  have ge_b12 : n0 ≤ b12 := Nat.le_trans Z_13 (Nat.le_of_eq g12.symm)
  have sz_b12 : h0.size ≤ b12 := Nat.le_trans K_14.1 (Nat.le_of_eq g12.symm)
  have K17 : Steps p.tables e below _ (T12.setTop (mkF m 16 #[.val (.ref o0)] [(.ref b12), (.ref o0)])) := K11.trans st12
  have Vn12 : Arv Z h12 b12 k12 .int (16 : Int32) [(.int (0 : Int32)), (.int (0 : Int32)), (.int (0 : Int32)), (.int (0 : Int32)), (.int (0 : Int32)), (.int (0 : Int32)), (.int (0 : Int32)), (.int (0 : Int32)), (.int (0 : Int32)), (.int (0 : Int32)), (.int (0 : Int32)), (.int (0 : Int32)), (.int (0 : Int32)), (.int (0 : Int32)), (.int (0 : Int32)), (.int (0 : Int32))] (.int (0 : Int32)) := V12
  have E_18 : Exa Z h12 o0 "com/example/futures_from_states/futuresfromstates/model/StateSet" := (E_15.ext E12)
  have F_19 : Fld Z h12 o0 "com/example/futures_from_states/futuresfromstates/model/StateSet" "members" "[I" u3_members := (((F_members_o0.ext E5).other W9 (Or.inr (slot_ne (Or.inl (hw _ (List.mem_of_getElem? (i := 15) rfl))) (Or.inl (hw _ (List.mem_of_getElem? (i := 12) rfl))) (by decide) (t := (.array .int)) (t' := (.array .long)) (by decide) (by decide)))).ext E12)
  obtain ⟨T20, h20, X20, e20, W20, st20⟩ := putF X12 hx hZ hown (host := "") (Or.inl (hw _ (List.mem_of_getElem? (i := 14) rfl))) Via.refl e12 F_19 E_18 (Or.inl (hw _ (List.mem_of_getElem? (i := 15) rfl))) (hw _ (List.mem_of_getElem? (i := 2) rfl)) (ty := (.array .int)) (by decide) rfl rfl (g := (mkF m 16 #[.val (.ref o0)] [(.ref b12), (.ref o0)])) rfl rfl (hb hby d1_16)
  have K21 : Steps p.tables e below _ (T20.setTop (mkF m 19 #[.val (.ref o0)] [])) := K17.trans (st20 _ (Steps.refl _))
  have Fw20 : Fld Z h20 o0 "com/example/futures_from_states/futuresfromstates/model/StateSet" "members" "[I" (.ref b12) := F_19.same W20
  have N20 := Fr.snoc X20 N9 g_o0
  obtain ⟨fs, hr, hrun, hended, hW, hsame⟩ := X20.leave (v := none) (fun _ => rfl)
  have K_22 : Keep h0 h20 [o0] := ((K_14.ext E12).wr W20 (Or.inl (List.mem_of_getElem? (i := 0) rfl)))
  have E_23 : Exa Z h20 o0 "com/example/futures_from_states/futuresfromstates/model/StateSet" := (E_18.wr W20)
  have F_24 : Fld Z h20 o0 "com/example/futures_from_states/futuresfromstates/model/StateSet" "size" "I" (.int w_size) := ((((F_size_o0.ext E5).other W9 (Or.inr (slot_ne (Or.inl (hw _ (List.mem_of_getElem? (i := 22) rfl))) (Or.inl (hw _ (List.mem_of_getElem? (i := 12) rfl))) (by decide) (t := .int) (t' := (.array .long)) (by decide) (by decide)))).ext E12).other W20 (Or.inr (slot_ne (Or.inl (hw _ (List.mem_of_getElem? (i := 22) rfl))) (Or.inl (hw _ (List.mem_of_getElem? (i := 15) rfl))) (by decide) (t := .int) (t' := (.array .int)) (by decide) (by decide))))
  have V_25 : Arv Z h20 b5 k5 .long (1 : Int32) [(.long (0 : Int64))] (.long (0 : Int64)) := ((V_16.ext E12).other W20 (Ne.symm ne_o0_b5))
  have E_26 : Exa Z h20 b5 "[J" := (((A5.wr W9).ext E12).wr W20)
  have F_27 : Fld Z h20 o0 "com/example/futures_from_states/futuresfromstates/model/StateSet" "bits" "[J" (.ref b5) := ((Fw9.ext E12).other W20 (Or.inr (slot_ne (Or.inl (hw _ (List.mem_of_getElem? (i := 12) rfl))) (Or.inl (hw _ (List.mem_of_getElem? (i := 15) rfl))) (by decide) (t := (.array .long)) (t' := (.array .int)) (by decide) (by decide))))
  have V_28 : Arv Z h20 b12 k12 .int (16 : Int32) [(.int (0 : Int32)), (.int (0 : Int32)), (.int (0 : Int32)), (.int (0 : Int32)), (.int (0 : Int32)), (.int (0 : Int32)), (.int (0 : Int32)), (.int (0 : Int32)), (.int (0 : Int32)), (.int (0 : Int32)), (.int (0 : Int32)), (.int (0 : Int32)), (.int (0 : Int32)), (.int (0 : Int32)), (.int (0 : Int32)), (.int (0 : Int32))] (.int (0 : Int32)) := (Vn12.other W20 (Ne.symm ne_o0_b12))
  have E_29 : Exa Z h20 b12 "[I" := (A12.wr W20)
  refine ⟨_, _, K21.trans (X20.returnOut hx Bd.returns (hb hby d1_19) hr), hrun, hended, _, _, rfl, ?_, ⟨_, rfl⟩, hW, hsame.mono (by decide) (by first | decide | omega)⟩
  show Q_rm1 Z o0 w_size u2_bits u3_members h0 n0 _ T20.heap _
  rw [e20]
  exact ⟨b5, b12, k5, k12, rfl, N20, K_22, E_23, F_24, V_25, E_26, F_27, V_28, E_29, Fw20, sz_b5, sz_b12, ne_b5_b12⟩
theorem d6_0 : decode jdk_29_method_65_code 0 = .ok (.iload_n 0, 1) := by decide +kernel
theorem d6_1 : decode jdk_29_method_65_code 1 = .ok (.iload_n 1, 1) := by decide +kernel
theorem d6_2 : decode jdk_29_method_65_code 2 = .ok (.if_icmp .lt 7, 3) := by decide +kernel
theorem d6_9 : decode jdk_29_method_65_code 9 = .ok (.iload_n 1, 1) := by decide +kernel
theorem d6_5 : decode jdk_29_method_65_code 5 = .ok (.iload_n 0, 1) := by decide +kernel
theorem d6_6 : decode jdk_29_method_65_code 6 = .ok (.goto 4, 3) := by decide +kernel
def Q_rm6 (Z : State) (p0 : Int32) (p1 : Int32) (h0 : Heap) (n0 : Nat) (v : Option Value) (h : Heap) (L : List Loc) : Prop := v = some (.int (if p0 < p1 then p1 else p0)) ∧ Fr n0 L ∧ h = h0
theorem ef_6 (m : MethodId) (x0 : Int32) (x1 : Int32) : entryFrame m #[(.int x0), (.int x1)] 2 = mkF m 0 #[.val (.int x0), .val (.int x1)] [] := by first | (simp [entryFrame, mkF, argsToLocals, Value.category]; done) | rfl
theorem d6_10 : decode jdk_29_method_65_code 10 = .ok (.ireturn, 1) := by decide +kernel
set_option maxRecDepth 65536 in
set_option maxHeartbeats 40000000 in
theorem rm6 (l : Launch) (Z : State) (a0 : Array Value) (hw : ∀ d ∈ tables_1, d.before a0 Z = true) (ws : List Jvm.Cond) (p0 : Int32) (p1 : Int32) (h0 : Heap) (n0 : Nat) (Z0 : n0 ≤ h0.size) :
    MetFree l (⟨"java/lang/Math", "max", "(II)I"⟩ : MethodName) (head1 (Jvm.Cond.code (⟨"java/lang/Math", "max", "(II)I"⟩ : MethodName) jdk_29_method_65_code 2 (some .int) :: ws) ({ frames := 0, cells := 0, slots := 0, locals := 0 } : Room)) (fun a U => a = #[(.int p0), (.int p1)] ∧ Z.Warmed39 U.vm ∧ U.heap = h0) (fun _ _ _ _ _ => True) (fun _ U o U' => ∃ v L, o = .returned v ∧ Q_rm6 Z p0 p1 h0 n0 v U'.heap L ∧ FrameEnd U o U' L ({ frames := 0, cells := 0, slots := 0, locals := 0 } : Room).cells ({ frames := 0, cells := 0, slots := 0, locals := 0 } : Room).slots) := by
  refine MetFree.of_bodySF (Jvm.Free.JP.mathPlain rfl (by decide +kernel)) hisR ?_
  intro p e s m args below meth c s₁ Bd hml0 hP hK
  obtain ⟨rfl, hZ, hh⟩ := hP
  have hx := Bd.exec
  have hby := Bd.bytes
  have hml : c.maxLocals = 2 := hml0
  have hown : s.vm.findClass "java/lang/Math" = some m.cls := findClass_of_methodNamed Bd.named
  have hnm := (name_of_methodNamed Bd.named Bd.method).1
  have X0 : Stand p l e ({ frames := 0, cells := 0, slots := 0, locals := 0 } : Room) s m #[(.int p0), (.int p1)] below meth c s₁ [] 0 0 := Stand.of_body Bd
  have e0 : s₁.heap = h0 := by rw [← hh, Bd.state]; rfl
  have N0 := Fr.nil n0
  have Kp0 : Keep h0 h0 [] := Keep.refl _ _
  have K0 : Steps p.tables e below (s₁.setTop (entryFrame m #[(.int p0), (.int p1)] 2)) (s₁.setTop (mkF m 0 #[.val (.int p0), .val (.int p1)] [])) := castTop (ef_6 m p0 p1) (Steps.refl _)
  have K1 : Steps p.tables e below _ (s₁.setTop (mkF m 2 #[.val (.int p0), .val (.int p1)] [(.int p1), (.int p0)])) := K0.trans (by
    show Steps p.tables e below (s₁.setTop (mkF m 0 #[.val (.int p0), .val (.int p1)] [])) _
    refine XS.iloadN X0.here hx rfl (hb hby d6_0) rfl ?_
    show Steps p.tables e below (s₁.setTop (mkF m 1 #[.val (.int p0), .val (.int p1)] [(.int p0)])) _
    refine XS.iloadN X0.here hx rfl (hb hby d6_1) rfl ?_
    show Steps p.tables e below (s₁.setTop (mkF m 2 #[.val (.int p0), .val (.int p1)] [(.int p1), (.int p0)])) _
    exact Steps.refl _)
  obtain ⟨v2_0, hv2_0, S2⟩ : ∃ (v2_0 : Int32), (if p0 < p1 then p1 else p0) = v2_0 ∧ Steps p.tables e below (s₁.setTop (mkF m 2 #[.val (.int p0), .val (.int p1)] [(.int p1), (.int p0)])) (s₁.setTop (mkF m 10 #[.val (.int p0), .val (.int p1)] [(.int v2_0)])) := by
    have R2 := Steps.refl (tb := p.tables) (e := e) (below := below) (s₁.setTop (mkF m 2 #[.val (.int p0), .val (.int p1)] [(.int p1), (.int p0)]))
    by_cases hc2 : p0 < p1
    · have K3 : Steps p.tables e below _ (s₁.setTop (mkF m 10 #[.val (.int p0), .val (.int p1)] [(.int p1)])) := R2.trans (by
        show Steps p.tables e below (s₁.setTop (mkF m 2 #[.val (.int p0), .val (.int p1)] [(.int p1), (.int p0)])) _
        refine XS.icmpYes X0.here hx rfl (pc0 := 2) (pc' := 9) rfl (hb hby d6_2) rfl (tlt hc2).1 (by decide) (by decide) ?_
        show Steps p.tables e below (s₁.setTop (mkF m 9 #[.val (.int p0), .val (.int p1)] [])) _
        refine XS.iloadN X0.here hx rfl (hb hby d6_9) rfl ?_
        show Steps p.tables e below (s₁.setTop (mkF m 10 #[.val (.int p0), .val (.int p1)] [(.int p1)])) _
        exact Steps.refl _)
      exact ⟨p1, (by rw [if_pos hc2]), K3⟩
    · have K4 : Steps p.tables e below _ (s₁.setTop (mkF m 10 #[.val (.int p0), .val (.int p1)] [(.int p0)])) := R2.trans (by
        show Steps p.tables e below (s₁.setTop (mkF m 2 #[.val (.int p0), .val (.int p1)] [(.int p1), (.int p0)])) _
        refine XS.icmpNo X0.here hx rfl (hb hby d6_2) rfl (flt hc2).1 ?_
        show Steps p.tables e below (s₁.setTop (mkF m 5 #[.val (.int p0), .val (.int p1)] [])) _
        refine XS.iloadN X0.here hx rfl (hb hby d6_5) rfl ?_
        show Steps p.tables e below (s₁.setTop (mkF m 6 #[.val (.int p0), .val (.int p1)] [(.int p0)])) _
        refine XS.goto X0.here hx rfl (pc0 := 6) (pc' := 10) rfl (hb hby d6_6) (by decide) (by decide) ?_
        show Steps p.tables e below (s₁.setTop (mkF m 10 #[.val (.int p0), .val (.int p1)] [(.int p0)])) _
        exact Steps.refl _)
      exact ⟨p0, (by rw [if_neg hc2]), K4⟩
  have K5 := K1.trans S2
  subst hv2_0
  obtain ⟨fs, hr, hrun, hended, hW, hsame⟩ := X0.leave (v := some (.int (if p0 < p1 then p1 else p0))) (fun h => by rw [Bd.returns] at h; cases h)
  refine ⟨_, _, K5.trans (retOut X0 hx Bd.returns rfl (Or.inl ⟨rfl, Or.inl rfl, _, rfl⟩) (hb hby d6_10) hr), hrun, hended, _, _, rfl, ?_, ⟨_, rfl⟩, hW, hsame.mono (by decide) (by first | decide | omega)⟩
  show Q_rm6 Z p0 p1 h0 n0 _ s₁.heap _
  rw [e0]
  exact ⟨rfl, N0, rfl⟩
theorem d8_0 : decode jdk_29_method_69_code 0 = .ok (.iload_n 0, 1) := by decide +kernel
theorem d8_1 : decode jdk_29_method_69_code 1 = .ok (.iload_n 1, 1) := by decide +kernel
theorem d8_2 : decode jdk_29_method_69_code 2 = .ok (.if_icmp .gt 7, 3) := by decide +kernel
theorem d8_9 : decode jdk_29_method_69_code 9 = .ok (.iload_n 1, 1) := by decide +kernel
theorem d8_5 : decode jdk_29_method_69_code 5 = .ok (.iload_n 0, 1) := by decide +kernel
theorem d8_6 : decode jdk_29_method_69_code 6 = .ok (.goto 4, 3) := by decide +kernel
def Q_rm8 (Z : State) (p0 : Int32) (p1 : Int32) (h0 : Heap) (n0 : Nat) (v : Option Value) (h : Heap) (L : List Loc) : Prop := v = some (.int (if p1 < p0 then p1 else p0)) ∧ Fr n0 L ∧ h = h0
theorem ef_8 (m : MethodId) (x0 : Int32) (x1 : Int32) : entryFrame m #[(.int x0), (.int x1)] 2 = mkF m 0 #[.val (.int x0), .val (.int x1)] [] := by first | (simp [entryFrame, mkF, argsToLocals, Value.category]; done) | rfl
theorem d8_10 : decode jdk_29_method_69_code 10 = .ok (.ireturn, 1) := by decide +kernel
set_option maxRecDepth 65536 in
set_option maxHeartbeats 40000000 in
theorem rm8 (l : Launch) (Z : State) (a0 : Array Value) (hw : ∀ d ∈ tables_1, d.before a0 Z = true) (ws : List Jvm.Cond) (p0 : Int32) (p1 : Int32) (h0 : Heap) (n0 : Nat) (Z0 : n0 ≤ h0.size) :
    MetFree l (⟨"java/lang/Math", "min", "(II)I"⟩ : MethodName) (head1 (Jvm.Cond.code (⟨"java/lang/Math", "min", "(II)I"⟩ : MethodName) jdk_29_method_69_code 2 (some .int) :: ws) ({ frames := 0, cells := 0, slots := 0, locals := 0 } : Room)) (fun a U => a = #[(.int p0), (.int p1)] ∧ Z.Warmed39 U.vm ∧ U.heap = h0) (fun _ _ _ _ _ => True) (fun _ U o U' => ∃ v L, o = .returned v ∧ Q_rm8 Z p0 p1 h0 n0 v U'.heap L ∧ FrameEnd U o U' L ({ frames := 0, cells := 0, slots := 0, locals := 0 } : Room).cells ({ frames := 0, cells := 0, slots := 0, locals := 0 } : Room).slots) := by
  refine MetFree.of_bodySF (Jvm.Free.JP.mathPlain rfl (by decide +kernel)) hisR ?_
  intro p e s m args below meth c s₁ Bd hml0 hP hK
  obtain ⟨rfl, hZ, hh⟩ := hP
  have hx := Bd.exec
  have hby := Bd.bytes
  have hml : c.maxLocals = 2 := hml0
  have hown : s.vm.findClass "java/lang/Math" = some m.cls := findClass_of_methodNamed Bd.named
  have hnm := (name_of_methodNamed Bd.named Bd.method).1
  have X0 : Stand p l e ({ frames := 0, cells := 0, slots := 0, locals := 0 } : Room) s m #[(.int p0), (.int p1)] below meth c s₁ [] 0 0 := Stand.of_body Bd
  have e0 : s₁.heap = h0 := by rw [← hh, Bd.state]; rfl
  have N0 := Fr.nil n0
  have Kp0 : Keep h0 h0 [] := Keep.refl _ _
  have K0 : Steps p.tables e below (s₁.setTop (entryFrame m #[(.int p0), (.int p1)] 2)) (s₁.setTop (mkF m 0 #[.val (.int p0), .val (.int p1)] [])) := castTop (ef_8 m p0 p1) (Steps.refl _)
  have K1 : Steps p.tables e below _ (s₁.setTop (mkF m 2 #[.val (.int p0), .val (.int p1)] [(.int p1), (.int p0)])) := K0.trans (by
    show Steps p.tables e below (s₁.setTop (mkF m 0 #[.val (.int p0), .val (.int p1)] [])) _
    refine XS.iloadN X0.here hx rfl (hb hby d8_0) rfl ?_
    show Steps p.tables e below (s₁.setTop (mkF m 1 #[.val (.int p0), .val (.int p1)] [(.int p0)])) _
    refine XS.iloadN X0.here hx rfl (hb hby d8_1) rfl ?_
    show Steps p.tables e below (s₁.setTop (mkF m 2 #[.val (.int p0), .val (.int p1)] [(.int p1), (.int p0)])) _
    exact Steps.refl _)
  obtain ⟨v2_0, hv2_0, S2⟩ : ∃ (v2_0 : Int32), (if p1 < p0 then p1 else p0) = v2_0 ∧ Steps p.tables e below (s₁.setTop (mkF m 2 #[.val (.int p0), .val (.int p1)] [(.int p1), (.int p0)])) (s₁.setTop (mkF m 10 #[.val (.int p0), .val (.int p1)] [(.int v2_0)])) := by
    have R2 := Steps.refl (tb := p.tables) (e := e) (below := below) (s₁.setTop (mkF m 2 #[.val (.int p0), .val (.int p1)] [(.int p1), (.int p0)]))
    by_cases hc2 : p1 < p0
    · have K3 : Steps p.tables e below _ (s₁.setTop (mkF m 10 #[.val (.int p0), .val (.int p1)] [(.int p1)])) := R2.trans (by
        show Steps p.tables e below (s₁.setTop (mkF m 2 #[.val (.int p0), .val (.int p1)] [(.int p1), (.int p0)])) _
        refine XS.icmpYes X0.here hx rfl (pc0 := 2) (pc' := 9) rfl (hb hby d8_2) rfl (tlt hc2).2.2.1 (by decide) (by decide) ?_
        show Steps p.tables e below (s₁.setTop (mkF m 9 #[.val (.int p0), .val (.int p1)] [])) _
        refine XS.iloadN X0.here hx rfl (hb hby d8_9) rfl ?_
        show Steps p.tables e below (s₁.setTop (mkF m 10 #[.val (.int p0), .val (.int p1)] [(.int p1)])) _
        exact Steps.refl _)
      exact ⟨p1, (by rw [if_pos hc2]), K3⟩
    · have K4 : Steps p.tables e below _ (s₁.setTop (mkF m 10 #[.val (.int p0), .val (.int p1)] [(.int p0)])) := R2.trans (by
        show Steps p.tables e below (s₁.setTop (mkF m 2 #[.val (.int p0), .val (.int p1)] [(.int p1), (.int p0)])) _
        refine XS.icmpNo X0.here hx rfl (hb hby d8_2) rfl (flt hc2).2.2.1 ?_
        show Steps p.tables e below (s₁.setTop (mkF m 5 #[.val (.int p0), .val (.int p1)] [])) _
        refine XS.iloadN X0.here hx rfl (hb hby d8_5) rfl ?_
        show Steps p.tables e below (s₁.setTop (mkF m 6 #[.val (.int p0), .val (.int p1)] [(.int p0)])) _
        refine XS.goto X0.here hx rfl (pc0 := 6) (pc' := 10) rfl (hb hby d8_6) (by decide) (by decide) ?_
        show Steps p.tables e below (s₁.setTop (mkF m 10 #[.val (.int p0), .val (.int p1)] [(.int p0)])) _
        exact Steps.refl _)
      exact ⟨p0, (by rw [if_neg hc2]), K4⟩
  have K5 := K1.trans S2
  subst hv2_0
  obtain ⟨fs, hr, hrun, hended, hW, hsame⟩ := X0.leave (v := some (.int (if p1 < p0 then p1 else p0))) (fun h => by rw [Bd.returns] at h; cases h)
  refine ⟨_, _, K5.trans (retOut X0 hx Bd.returns rfl (Or.inl ⟨rfl, Or.inl rfl, _, rfl⟩) (hb hby d8_10) hr), hrun, hended, _, _, rfl, ?_, ⟨_, rfl⟩, hW, hsame.mono (by decide) (by first | decide | omega)⟩
  show Q_rm8 Z p0 p1 h0 n0 _ s₁.heap _
  rw [e0]
  exact ⟨rfl, N0, rfl⟩
theorem d4_0 : decode prog_83_method_3_code 0 = .ok (.aload_n 0, 1) := by decide +kernel
theorem d4_1 : decode prog_83_method_3_code 1 = .ok (.getfield 29, 3) := by decide +kernel
def Q_rm4 (Z : State) (o0 : Addr) (w1_size : Int32) (h0 : Heap) (n0 : Nat) (v : Option Value) (h : Heap) (L : List Loc) : Prop := v = some (.int w1_size) ∧ Fr n0 L ∧ h = h0
theorem pn_4 : plainName "com/example/futures_from_states/futuresfromstates/model/StateSet" = true := by first | (simp [plainName, overriddenIn]; done) | decide +kernel
theorem ef_4 (m : MethodId) (x0 : Addr) : entryFrame m #[(.ref x0)] 1 = mkF m 0 #[.val (.ref x0)] [] := by first | (simp [entryFrame, mkF, argsToLocals, Value.category]; done) | rfl
theorem d4_4 : decode prog_83_method_3_code 4 = .ok (.ireturn, 1) := by decide +kernel
set_option maxRecDepth 65536 in
set_option maxHeartbeats 40000000 in
theorem rm4 (l : Launch) (Z : State) (a0 : Array Value) (hw : ∀ d ∈ tables_1, d.before a0 Z = true) (ws : List Jvm.Cond) (o0 : Addr) (w1_size : Int32) (h0 : Heap) (n0 : Nat) (Z0 : n0 ≤ h0.size) (F_size_o0 : Fld Z h0 o0 "com/example/futures_from_states/futuresfromstates/model/StateSet" "size" "I" (.int w1_size)) :
    MetFree l (⟨"com/example/futures_from_states/futuresfromstates/model/StateSet", "size", "()I"⟩ : MethodName) (head1 (Jvm.Cond.code (⟨"com/example/futures_from_states/futuresfromstates/model/StateSet", "size", "()I"⟩ : MethodName) prog_83_method_3_code 1 (some .int) :: ws) ({ frames := 0, cells := 0, slots := 0, locals := 0 } : Room)) (fun a U => a = #[(.ref o0)] ∧ Z.Warmed39 U.vm ∧ U.heap = h0) (fun _ _ _ _ _ => True) (fun _ U o U' => ∃ v L, o = .returned v ∧ Q_rm4 Z o0 w1_size h0 n0 v U'.heap L ∧ FrameEnd U o U' L ({ frames := 0, cells := 0, slots := 0, locals := 0 } : Room).cells ({ frames := 0, cells := 0, slots := 0, locals := 0 } : Room).slots) := by
  refine MetFree.of_bodySF (plainFor_of_name pn_4) hisR ?_
  intro p e s m args below meth c s₁ Bd hml0 hP hK
  obtain ⟨rfl, hZ, hh⟩ := hP
  have hx := Bd.exec
  have hby := Bd.bytes
  have hml : c.maxLocals = 1 := hml0
  have hown : s.vm.findClass "com/example/futures_from_states/futuresfromstates/model/StateSet" = some m.cls := findClass_of_methodNamed Bd.named
  have hnm := (name_of_methodNamed Bd.named Bd.method).1
  have X0 : Stand p l e ({ frames := 0, cells := 0, slots := 0, locals := 0 } : Room) s m #[(.ref o0)] below meth c s₁ [] 0 0 := Stand.of_body Bd
  have e0 : s₁.heap = h0 := by rw [← hh, Bd.state]; rfl
  have N0 := Fr.nil n0
  have Kp0 : Keep h0 h0 [] := Keep.refl _ _
  have K0 : Steps p.tables e below (s₁.setTop (entryFrame m #[(.ref o0)] 1)) (s₁.setTop (mkF m 0 #[.val (.ref o0)] [])) := castTop (ef_4 m o0) (Steps.refl _)
  have K1 : Steps p.tables e below _ (s₁.setTop (mkF m 1 #[.val (.ref o0)] [(.ref o0)])) := K0.trans (by
    show Steps p.tables e below (s₁.setTop (mkF m 0 #[.val (.ref o0)] [])) _
    refine XS.aloadN X0.here hx rfl (hb hby d4_0) rfl rfl ?_
    show Steps p.tables e below (s₁.setTop (mkF m 1 #[.val (.ref o0)] [(.ref o0)])) _
    exact Steps.refl _)
  obtain ⟨T2, X2, e2, st2⟩ := getF X0 hx hZ hown (host := "") (Or.inl (hw _ (List.mem_of_getElem? (i := 21) rfl))) Via.refl e0 F_size_o0 (g := (mkF m 1 #[.val (.ref o0)] [(.ref o0)])) rfl rfl (hb hby d4_1)
  have K3 : Steps p.tables e below _ (T2.setTop (mkF m 4 #[.val (.ref o0)] [(.int w1_size)])) := K1.trans (st2 _ (Steps.refl _))
  obtain ⟨fs, hr, hrun, hended, hW, hsame⟩ := X2.leave (v := some (.int w1_size)) (fun h => by rw [Bd.returns] at h; cases h)
  refine ⟨_, _, K3.trans (retOut X2 hx Bd.returns rfl (Or.inl ⟨rfl, Or.inl rfl, _, rfl⟩) (hb hby d4_4) hr), hrun, hended, _, _, rfl, ?_, ⟨_, rfl⟩, hW, hsame.mono (by decide) (by first | decide | omega)⟩
  show Q_rm4 Z o0 w1_size h0 n0 _ T2.heap _
  rw [e2]
  exact ⟨rfl, N0, rfl⟩
theorem d7_0 : decode jdk_65_method_124_code 0 = .ok (.iload_n 1, 1) := by decide +kernel
theorem d7_1 : decode jdk_65_method_124_code 1 = .ok (.aload_n 0, 1) := by decide +kernel
theorem d7_2 : decode jdk_65_method_124_code 2 = .ok (.arraylength, 1) := by decide +kernel
theorem d7_3 : decode jdk_65_method_124_code 3 = .ok (.if_icmp .ne 11, 3) := by decide +kernel
theorem d7_14 : decode jdk_65_method_124_code 14 = .ok (.iload_n 1, 1) := by decide +kernel
theorem d7_15 : decode jdk_65_method_124_code 15 = .ok (.newarray .long, 2) := by decide +kernel
theorem d7_17 : decode jdk_65_method_124_code 17 = .ok (.astore_n 2, 1) := by decide +kernel
theorem d7_18 : decode jdk_65_method_124_code 18 = .ok (.aload_n 0, 1) := by decide +kernel
theorem d7_19 : decode jdk_65_method_124_code 19 = .ok (.iconst 0, 1) := by decide +kernel
theorem d7_20 : decode jdk_65_method_124_code 20 = .ok (.aload_n 2, 1) := by decide +kernel
theorem d7_21 : decode jdk_65_method_124_code 21 = .ok (.iconst 0, 1) := by decide +kernel
theorem d7_22 : decode jdk_65_method_124_code 22 = .ok (.aload_n 0, 1) := by decide +kernel
theorem d7_23 : decode jdk_65_method_124_code 23 = .ok (.arraylength, 1) := by decide +kernel
theorem d7_24 : decode jdk_65_method_124_code 24 = .ok (.iload_n 1, 1) := by decide +kernel
theorem pd_0 : parseMethodDescriptor "(II)I" = some ⟨[.int, .int], some .int⟩ := by decide +kernel
theorem d7_25 : decode jdk_65_method_124_code 25 = .ok (.invokestatic 304, 3) := by decide +kernel
theorem d7_28 : decode jdk_65_method_124_code 28 = .ok (.invokestatic 150, 3) := by decide +kernel
theorem d7_31 : decode jdk_65_method_124_code 31 = .ok (.aload_n 2, 1) := by decide +kernel
def Q_rm7 (Z : State) (o0 : Addr) (p1 : Int32) (k0 : ClassId) (z0 : Int32) (vs0 : List Value) (h0 : Heap) (n0 : Nat) (v : Option Value) (h : Heap) (L : List Loc) : Prop := ∃ b4 : Addr, ∃ k4 : ClassId, v = some (.ref b4) ∧ Fr n0 L ∧ Keep h0 h [] ∧ Exa Z h b4 "[J" ∧ Arv Z h b4 k4 .long p1 (own_cp p1.toNatClampNeg z0.toNatClampNeg vs0 (.long (0 : Int64))) (.long (0 : Int64)) ∧ h0.size ≤ b4
theorem pn_7 : plainName "java/util/Arrays" = true := by first | (simp [plainName, overriddenIn]; done) | decide +kernel
theorem ef_7 (m : MethodId) (x0 : Addr) (x1 : Int32) : entryFrame m #[(.ref x0), (.int x1)] 3 = mkF m 0 #[.val (.ref x0), .val (.int x1), .unset] [] := by first | (simp [entryFrame, mkF, argsToLocals, Value.category]; done) | rfl
theorem d7_32 : decode jdk_65_method_124_code 32 = .ok (.areturn, 1) := by decide +kernel
set_option maxRecDepth 65536 in
set_option maxHeartbeats 40000000 in
theorem rm7 (l : Launch) (Z : State) (a0 : Array Value) (hw : ∀ d ∈ tables_1, d.before a0 Z = true) (ws : List Jvm.Cond) (o0 : Addr) (p1 : Int32) (k0 : ClassId) (z0 : Int32) (vs0 : List Value) (h0 : Heap) (n0 : Nat) (Z0 : n0 ≤ h0.size) (V_o0 : Arv Z h0 o0 k0 .long z0 vs0 (.long (0 : Int64))) (hc : own_cpre p1 z0) :
    MetFree l (⟨"java/util/Arrays", "copyOf", "([JI)[J"⟩ : MethodName) (head1 (Jvm.Cond.code (⟨"java/util/Arrays", "copyOf", "([JI)[J"⟩ : MethodName) jdk_65_method_124_code 3 (some (.array .long)) :: ws) ({ frames := 1, cells := 1, slots := p1.toNatClampNeg, locals := 36 } : Room)) (fun a U => a = #[(.ref o0), (.int p1)] ∧ Z.Warmed39 U.vm ∧ U.heap = h0) (fun _ _ _ _ _ => True) (fun _ U o U' => ∃ v L, o = .returned v ∧ Q_rm7 Z o0 p1 k0 z0 vs0 h0 n0 v U'.heap L ∧ FrameEnd U o U' L ({ frames := 1, cells := 1, slots := p1.toNatClampNeg, locals := 36 } : Room).cells ({ frames := 1, cells := 1, slots := p1.toNatClampNeg, locals := 36 } : Room).slots) := by
  refine MetFree.of_bodySF (plainFor_of_name pn_7) hisR ?_
  intro p e s m args below meth c s₁ Bd hml0 hP hK
  obtain ⟨rfl, hZ, hh⟩ := hP
  have hx := Bd.exec
  have hby := Bd.bytes
  have hml : c.maxLocals = 3 := hml0
  have hown : s.vm.findClass "java/util/Arrays" = some m.cls := findClass_of_methodNamed Bd.named
  have hnm := (name_of_methodNamed Bd.named Bd.method).1
  have X0 : Stand p l e ({ frames := 1, cells := 1, slots := p1.toNatClampNeg, locals := 36 } : Room) s m #[(.ref o0), (.int p1)] below meth c s₁ [] 0 0 := Stand.of_body Bd
  have e0 : s₁.heap = h0 := by rw [← hh, Bd.state]; rfl
  have N0 := Fr.nil n0
  have Kp0 : Keep h0 h0 [] := Keep.refl _ _
  have K0 : Steps p.tables e below (s₁.setTop (entryFrame m #[(.ref o0), (.int p1)] 3)) (s₁.setTop (mkF m 0 #[.val (.ref o0), .val (.int p1), .unset] [])) := castTop (ef_7 m o0 p1) (Steps.refl _)
  have K2 : Steps p.tables e below _ (s₁.setTop (mkF m 3 #[.val (.ref o0), .val (.int p1), .unset] [(.int z0), (.int p1)])) := K0.trans (by
    show Steps p.tables e below (s₁.setTop (mkF m 0 #[.val (.ref o0), .val (.int p1), .unset] [])) _
    refine XS.iloadN X0.here hx rfl (hb hby d7_0) rfl ?_
    show Steps p.tables e below (s₁.setTop (mkF m 1 #[.val (.ref o0), .val (.int p1), .unset] [(.int p1)])) _
    refine XS.aloadN X0.here hx rfl (hb hby d7_1) rfl rfl ?_
    show Steps p.tables e below (s₁.setTop (mkF m 2 #[.val (.ref o0), .val (.int p1), .unset] [(.ref o0), (.int p1)])) _
    refine (own_len X0 hx hZ e0 V_o0 (g := (mkF m 2 #[.val (.ref o0), .val (.int p1), .unset] [(.ref o0), (.int p1)])) rfl rfl (hb hby d7_2)).trans ?_
    show Steps p.tables e below (s₁.setTop (mkF m 3 #[.val (.ref o0), .val (.int p1), .unset] [(.int z0), (.int p1)])) _
    exact Steps.refl _)
  have hc3_0 : ¬ (p1 = z0) := own_c1 hc
  have K3 : Steps p.tables e below _ (s₁.setTop (mkF m 15 #[.val (.ref o0), .val (.int p1), .unset] [(.int p1)])) := K2.trans (by
    show Steps p.tables e below (s₁.setTop (mkF m 3 #[.val (.ref o0), .val (.int p1), .unset] [(.int z0), (.int p1)])) _
    refine XS.icmpYes X0.here hx rfl (pc0 := 3) (pc' := 14) rfl (hb hby d7_3) rfl (feq hc3_0).2 (by decide) (by decide) ?_
    show Steps p.tables e below (s₁.setTop (mkF m 14 #[.val (.ref o0), .val (.int p1), .unset] [])) _
    refine XS.iloadN X0.here hx rfl (hb hby d7_14) rfl ?_
    show Steps p.tables e below (s₁.setTop (mkF m 15 #[.val (.ref o0), .val (.int p1), .unset] [(.int p1)])) _
    exact Steps.refl _)
  obtain ⟨T4, h4, k4, b4, X4, e4, E4, g4, V4, A4, st4⟩ := own_newJ X0 hx hZ (hw _ (List.mem_of_getElem? (i := 10) rfl)) e0 (g := (mkF m 15 #[.val (.ref o0), .val (.int p1), .unset] [(.int p1)])) rfl (hb hby d7_15) rfl (own_c2 hc) p1.toNatClampNeg (Nat.le_refl _) (own_c3 hc) (by exact Nat.le_of_ble_eq_true rfl) (Nat.le_of_eq (Nat.zero_add _))
  have ne_o0_b4 : o0 ≠ b4 := Nat.ne_of_lt (Nat.lt_of_lt_of_le V_o0.lt (Nat.le_of_eq g4.symm))
  have ge_b4 : n0 ≤ b4 := Nat.le_trans Z0 (Nat.le_of_eq g4.symm)
  have sz_b4 : h0.size ≤ b4 := Nat.le_trans Kp0.1 (Nat.le_of_eq g4.symm)
  have K5 : Steps p.tables e below _ (T4.setTop (mkF m 17 #[.val (.ref o0), .val (.int p1), .unset] [(.ref b4)])) := K3.trans st4
  have Vn4 : Arv Z h4 b4 k4 .long p1 (List.replicate p1.toNatClampNeg (.long (0 : Int64))) (.long (0 : Int64)) := V4
  have V_6 : Arv Z h4 o0 k0 .long z0 vs0 (.long (0 : Int64)) := (V_o0.ext E4)
  have K7 : Steps p.tables e below _ (T4.setTop (mkF m 25 #[.val (.ref o0), .val (.int p1), .val (.ref b4)] [(.int p1), (.int z0), (.int (0 : Int32)), (.ref b4), (.int (0 : Int32)), (.ref o0)])) := K5.trans (by
    show Steps p.tables e below (T4.setTop (mkF m 17 #[.val (.ref o0), .val (.int p1), .unset] [(.ref b4)])) _
    refine XS.astoreN X4.here hx rfl (hb hby d7_17) rfl rfl (l' := #[.val (.ref o0), .val (.int p1), .val (.ref b4)]) rfl ?_
    show Steps p.tables e below (T4.setTop (mkF m 18 #[.val (.ref o0), .val (.int p1), .val (.ref b4)] [])) _
    refine XS.aloadN X4.here hx rfl (hb hby d7_18) rfl rfl ?_
    show Steps p.tables e below (T4.setTop (mkF m 19 #[.val (.ref o0), .val (.int p1), .val (.ref b4)] [(.ref o0)])) _
    refine XS.iconst X4.here hx rfl (hb hby d7_19) ?_
    show Steps p.tables e below (T4.setTop (mkF m 20 #[.val (.ref o0), .val (.int p1), .val (.ref b4)] [(.int (0 : Int32)), (.ref o0)])) _
    refine XS.aloadN X4.here hx rfl (hb hby d7_20) rfl rfl ?_
    show Steps p.tables e below (T4.setTop (mkF m 21 #[.val (.ref o0), .val (.int p1), .val (.ref b4)] [(.ref b4), (.int (0 : Int32)), (.ref o0)])) _
    refine XS.iconst X4.here hx rfl (hb hby d7_21) ?_
    show Steps p.tables e below (T4.setTop (mkF m 22 #[.val (.ref o0), .val (.int p1), .val (.ref b4)] [(.int (0 : Int32)), (.ref b4), (.int (0 : Int32)), (.ref o0)])) _
    refine XS.aloadN X4.here hx rfl (hb hby d7_22) rfl rfl ?_
    show Steps p.tables e below (T4.setTop (mkF m 23 #[.val (.ref o0), .val (.int p1), .val (.ref b4)] [(.ref o0), (.int (0 : Int32)), (.ref b4), (.int (0 : Int32)), (.ref o0)])) _
    refine (own_len X4 hx hZ e4 V_6 (g := (mkF m 23 #[.val (.ref o0), .val (.int p1), .val (.ref b4)] [(.ref o0), (.int (0 : Int32)), (.ref b4), (.int (0 : Int32)), (.ref o0)])) rfl rfl (hb hby d7_23)).trans ?_
    show Steps p.tables e below (T4.setTop (mkF m 24 #[.val (.ref o0), .val (.int p1), .val (.ref b4)] [(.int z0), (.int (0 : Int32)), (.ref b4), (.int (0 : Int32)), (.ref o0)])) _
    refine XS.iloadN X4.here hx rfl (hb hby d7_24) rfl ?_
    show Steps p.tables e below (T4.setTop (mkF m 25 #[.val (.ref o0), .val (.int p1), .val (.ref b4)] [(.int p1), (.int z0), (.int (0 : Int32)), (.ref b4), (.int (0 : Int32)), (.ref o0)])) _
    exact Steps.refl _)
  have Z_8 : n0 ≤ h4.size := (Nat.le_trans Z0 E4.1)
  obtain ⟨_, _, ⟨T9, L9, k9, n9⟩, -, X9, ⟨Lc9, hQ9, l9, y9, z9⟩, st9⟩ := Jvm.LawKit.callS X4 hx (y := (⟨"java/lang/Math", "min", "(II)I"⟩ : MethodName)) hown (mvT hZ (hw _ (List.mem_of_getElem? (i := 42) rfl))) (mvT hZ (hw _ (List.mem_of_getElem? (i := 43) rfl))) (mvT hZ (hw _ (List.mem_of_getElem? (i := 36) rfl))) (mvT hZ (hw _ (List.mem_of_getElem? (i := 44) rfl))) (by decide) (backOf (W := 4) (rm8 l Z a0 hw [] z0 p1 h4 n0 Z_8 ) hZ (hw _ (List.mem_of_getElem? (i := 44) rfl)) (hw _ (List.mem_of_getElem? (i := 36) rfl)) (by exact Nat.le_of_ble_eq_true rfl) (by exact Nat.le_of_ble_eq_true rfl)) (g := (mkF m 25 #[.val (.ref o0), .val (.int p1), .val (.ref b4)] [(.int p1), (.int z0), (.int (0 : Int32)), (.ref b4), (.int (0 : Int32)), (.ref o0)])) rfl (by rw [hml]; rfl) (argsL := [(.int z0), (.int p1)]) (rest := [(.int (0 : Int32)), (.ref b4), (.int (0 : Int32)), (.ref o0)]) (lenOf pd_0 rfl) rfl (by show 2 * 0 + _ ≤ _; exact Nat.le_of_eq rfl) (hb hby d7_25) (fun _ _ => ⟨rfl, e4, (by exact Nat.le_of_ble_eq_true rfl), (by show (0 + p1.toNatClampNeg) + 0 ≤ p1.toNatClampNeg; omega)⟩)
  dsimp only [Pt.U, Pt.locs, Pt.cells, Pt.slots] at X9 l9 y9 z9 st9 hQ9
  subst l9 y9 z9
  obtain ⟨rfl, N9, eh9⟩ := hQ9
  have N9' := Fr.app N0 N9
  have K10 : Steps p.tables e below _ (T9.setTop (mkF m 28 #[.val (.ref o0), .val (.int p1), .val (.ref b4)] [(.int (if p1 < z0 then p1 else z0)), (.int (0 : Int32)), (.ref b4), (.int (0 : Int32)), (.ref o0)])) := K7.trans (st9 _ (Steps.refl _))
  rw [show (if p1 < z0 then p1 else z0) = z0 from own_c4 hc] at K10
  obtain ⟨T11, h11, L11, X11, e11, N11, Kp11, V11, st11⟩ := cpA X9 hx hZ hown (hw _ (List.mem_of_getElem? (i := 45) rfl)) (hw _ (List.mem_of_getElem? (i := 48) rfl)) (hw _ (List.mem_of_getElem? (i := 46) rfl)) (hw _ (List.mem_of_getElem? (i := 47) rfl)) eh9 V_6 Vn4 (Or.inl ⟨rfl, rfl⟩) (us := ((List.range z0.toNatClampNeg).map fun jx => vs0.getD ((0 : Int32).toNatClampNeg + jx) (.long (0 : Int64)))) (sp := (0 : Int32)) (dp := (0 : Int32)) (nn := z0) (by decide) (by decide) (own_c5 hc) (Nat.le_of_eq (Nat.zero_add _)) (own_c6 hc) rfl (own_c7 hc) N9' ge_b4 (g := (mkF m 28 #[.val (.ref o0), .val (.int p1), .val (.ref b4)] [(.int z0), (.int (0 : Int32)), (.ref b4), (.int (0 : Int32)), (.ref o0)])) rfl (by rw [hml]; rfl) (rest := []) rfl (hb hby d7_28) (by exact Nat.le_of_ble_eq_true rfl) (W := 0) (by show 2 * 0 + _ ≤ _; exact Nat.le_of_eq rfl) (by exact Nat.le_of_ble_eq_true rfl)
  have K12 : Steps p.tables e below _ (T11.setTop (mkF m 31 #[.val (.ref o0), .val (.int p1), .val (.ref b4)] [])) := K10.trans (st11 _ (Steps.refl _))
  have Vc11 : Arv Z h11 b4 k4 .long p1 (own_cp p1.toNatClampNeg z0.toNatClampNeg vs0 (.long (0 : Int64))) (.long (0 : Int64)) := V11
  have K13 : Steps p.tables e below _ (T11.setTop (mkF m 32 #[.val (.ref o0), .val (.int p1), .val (.ref b4)] [(.ref b4)])) := K12.trans (by
    show Steps p.tables e below (T11.setTop (mkF m 31 #[.val (.ref o0), .val (.int p1), .val (.ref b4)] [])) _
    refine XS.aloadN X11.here hx rfl (hb hby d7_31) rfl rfl ?_
    show Steps p.tables e below (T11.setTop (mkF m 32 #[.val (.ref o0), .val (.int p1), .val (.ref b4)] [(.ref b4)])) _
    exact Steps.refl _)
  obtain ⟨fs, hr, hrun, hended, hW, hsame⟩ := X11.leave (v := some (.ref b4)) (fun h => by rw [Bd.returns] at h; cases h)
  have K_14 : Keep h0 h11 [] := ((Kp0.ext E4).trans Kp11 (allS (Or.inr sz_b4) all0))
  have E_15 : Exa Z h11 b4 "[J" := (A4.keep Kp11)
  refine ⟨_, _, K13.trans (retOut X11 hx Bd.returns rfl (Or.inr (Or.inr (Or.inr (Or.inr ⟨rfl, rfl, rfl⟩)))) (hb hby d7_32) hr), hrun, hended, _, _, rfl, ?_, ⟨_, rfl⟩, hW, hsame.mono (by exact Nat.le_of_ble_eq_true rfl) (by show _ ≤ p1.toNatClampNeg; omega)⟩
  show Q_rm7 Z o0 p1 k0 z0 vs0 h0 n0 _ T11.heap _
  rw [e11]
  exact ⟨b4, k4, rfl, N11, K_14, E_15, Vc11, sz_b4⟩
theorem d5_0 : decode prog_83_method_2_code 0 = .ok (.iload_n 1, 1) := by decide +kernel
theorem d5_1 : decode prog_83_method_2_code 1 = .ok (.bipush 6, 2) := by decide +kernel
theorem d5_3 : decode prog_83_method_2_code 3 = .ok (.iushr, 1) := by decide +kernel
theorem d5_4 : decode prog_83_method_2_code 4 = .ok (.istore_n 2, 1) := by decide +kernel
theorem d5_5 : decode prog_83_method_2_code 5 = .ok (.iload_n 2, 1) := by decide +kernel
theorem d5_6 : decode prog_83_method_2_code 6 = .ok (.aload_n 0, 1) := by decide +kernel
theorem d5_7 : decode prog_83_method_2_code 7 = .ok (.getfield 7, 3) := by decide +kernel
theorem d5_10 : decode prog_83_method_2_code 10 = .ok (.arraylength, 1) := by decide +kernel
theorem d5_11 : decode prog_83_method_2_code 11 = .ok (.if_icmp .lt 27, 3) := by decide +kernel
theorem d5_38 : decode prog_83_method_2_code 38 = .ok (.aload_n 0, 1) := by decide +kernel
theorem d5_39 : decode prog_83_method_2_code 39 = .ok (.getfield 7, 3) := by decide +kernel
theorem d5_42 : decode prog_83_method_2_code 42 = .ok (.iload_n 2, 1) := by decide +kernel
theorem d5_43 : decode prog_83_method_2_code 43 = .ok (.laload, 1) := by decide +kernel
theorem d5_44 : decode prog_83_method_2_code 44 = .ok (.lconst 1, 1) := by decide +kernel
theorem d5_45 : decode prog_83_method_2_code 45 = .ok (.iload_n 1, 1) := by decide +kernel
theorem d5_46 : decode prog_83_method_2_code 46 = .ok (.lshl, 1) := by decide +kernel
theorem d5_47 : decode prog_83_method_2_code 47 = .ok (.land, 1) := by decide +kernel
theorem d5_48 : decode prog_83_method_2_code 48 = .ok (.lconst 0, 1) := by decide +kernel
theorem d5_49 : decode prog_83_method_2_code 49 = .ok (.lcmp, 1) := by decide +kernel
theorem d5_50 : decode prog_83_method_2_code 50 = .ok (.ifCond .ne 7, 3) := by decide +kernel
theorem d5_53 : decode prog_83_method_2_code 53 = .ok (.iconst 1, 1) := by decide +kernel
theorem d5_54 : decode prog_83_method_2_code 54 = .ok (.goto 4, 3) := by decide +kernel
theorem d5_57 : decode prog_83_method_2_code 57 = .ok (.iconst 0, 1) := by decide +kernel
theorem d5_58 : decode prog_83_method_2_code 58 = .ok (.istore_n 3, 1) := by decide +kernel
theorem d5_59 : decode prog_83_method_2_code 59 = .ok (.iload_n 3, 1) := by decide +kernel
theorem d5_60 : decode prog_83_method_2_code 60 = .ok (.ifCond .eq 61, 3) := by decide +kernel
theorem d5_121 : decode prog_83_method_2_code 121 = .ok (.iload_n 3, 1) := by decide +kernel
theorem d5_63 : decode prog_83_method_2_code 63 = .ok (.aload_n 0, 1) := by decide +kernel
theorem d5_64 : decode prog_83_method_2_code 64 = .ok (.getfield 7, 3) := by decide +kernel
theorem d5_67 : decode prog_83_method_2_code 67 = .ok (.iload_n 2, 1) := by decide +kernel
theorem d5_68 : decode prog_83_method_2_code 68 = .ok (.dup2, 1) := by decide +kernel
theorem d5_69 : decode prog_83_method_2_code 69 = .ok (.laload, 1) := by decide +kernel
theorem d5_70 : decode prog_83_method_2_code 70 = .ok (.lconst 1, 1) := by decide +kernel
theorem d5_71 : decode prog_83_method_2_code 71 = .ok (.iload_n 1, 1) := by decide +kernel
theorem d5_72 : decode prog_83_method_2_code 72 = .ok (.lshl, 1) := by decide +kernel
theorem d5_73 : decode prog_83_method_2_code 73 = .ok (.lor, 1) := by decide +kernel
theorem d5_74 : decode prog_83_method_2_code 74 = .ok (.lastore, 1) := by decide +kernel
theorem d5_75 : decode prog_83_method_2_code 75 = .ok (.aload_n 0, 1) := by decide +kernel
theorem d5_76 : decode prog_83_method_2_code 76 = .ok (.getfield 29, 3) := by decide +kernel
theorem d5_79 : decode prog_83_method_2_code 79 = .ok (.aload_n 0, 1) := by decide +kernel
theorem d5_80 : decode prog_83_method_2_code 80 = .ok (.getfield 13, 3) := by decide +kernel
theorem d5_83 : decode prog_83_method_2_code 83 = .ok (.arraylength, 1) := by decide +kernel
theorem d5_84 : decode prog_83_method_2_code 84 = .ok (.if_icmp .ne 20, 3) := by decide +kernel
theorem d5_104 : decode prog_83_method_2_code 104 = .ok (.aload_n 0, 1) := by decide +kernel
theorem d5_105 : decode prog_83_method_2_code 105 = .ok (.getfield 13, 3) := by decide +kernel
theorem d5_108 : decode prog_83_method_2_code 108 = .ok (.aload_n 0, 1) := by decide +kernel
theorem d5_109 : decode prog_83_method_2_code 109 = .ok (.dup, 1) := by decide +kernel
theorem d5_110 : decode prog_83_method_2_code 110 = .ok (.getfield 29, 3) := by decide +kernel
theorem d5_113 : decode prog_83_method_2_code 113 = .ok (.dup_x1, 1) := by decide +kernel
theorem d5_114 : decode prog_83_method_2_code 114 = .ok (.iconst 1, 1) := by decide +kernel
theorem d5_115 : decode prog_83_method_2_code 115 = .ok (.iadd, 1) := by decide +kernel
theorem d5_116 : decode prog_83_method_2_code 116 = .ok (.putfield 29, 3) := by decide +kernel
theorem d5_119 : decode prog_83_method_2_code 119 = .ok (.iload_n 1, 1) := by decide +kernel
theorem d5_120 : decode prog_83_method_2_code 120 = .ok (.iastore, 1) := by decide +kernel
theorem d5_14 : decode prog_83_method_2_code 14 = .ok (.aload_n 0, 1) := by decide +kernel
theorem d5_15 : decode prog_83_method_2_code 15 = .ok (.aload_n 0, 1) := by decide +kernel
theorem d5_16 : decode prog_83_method_2_code 16 = .ok (.getfield 7, 3) := by decide +kernel
theorem d5_19 : decode prog_83_method_2_code 19 = .ok (.iconst 2, 1) := by decide +kernel
theorem d5_20 : decode prog_83_method_2_code 20 = .ok (.aload_n 0, 1) := by decide +kernel
theorem d5_21 : decode prog_83_method_2_code 21 = .ok (.getfield 7, 3) := by decide +kernel
theorem d5_24 : decode prog_83_method_2_code 24 = .ok (.arraylength, 1) := by decide +kernel
theorem d5_25 : decode prog_83_method_2_code 25 = .ok (.imul, 1) := by decide +kernel
theorem d5_26 : decode prog_83_method_2_code 26 = .ok (.iload_n 2, 1) := by decide +kernel
theorem d5_27 : decode prog_83_method_2_code 27 = .ok (.iconst 1, 1) := by decide +kernel
theorem d5_28 : decode prog_83_method_2_code 28 = .ok (.iadd, 1) := by decide +kernel
theorem d5_29 : decode prog_83_method_2_code 29 = .ok (.invokestatic 17, 3) := by decide +kernel
theorem pd_1 : parseMethodDescriptor "([JI)[J" = some ⟨[(.array .long), .int], some (.array .long)⟩ := by decide +kernel
theorem d5_32 : decode prog_83_method_2_code 32 = .ok (.invokestatic 23, 3) := by decide +kernel
theorem d5_35 : decode prog_83_method_2_code 35 = .ok (.putfield 7, 3) := by decide +kernel
def Q_rm5 (Z : State) (o0 : Addr) (p1 : Int32) (ba : Addr) (ma : Addr) (kb : ClassId) (km : ClassId) (z : Int32) (vs : List Value) (vm : List Value) (n : Int32) (S : List Int32) (h0 : Heap) (n0 : Nat) (v : Option Value) (h : Heap) (L : List Loc) : Prop := ∃ ba2 : Addr, ∃ kb2 : ClassId, ∃ z2 : Int32, ∃ vs2 : List Value, ∃ vm2 : List Value, ∃ n2 : Int32, v = some (.int (own_ret S p1)) ∧ Fr n0 L ∧ Keep h0 h [o0, ba, ma] ∧ Exa Z h o0 "com/example/futures_from_states/futuresfromstates/model/StateSet" ∧ Fld Z h o0 "com/example/futures_from_states/futuresfromstates/model/StateSet" "bits" "[J" (.ref ba2) ∧ Fld Z h o0 "com/example/futures_from_states/futuresfromstates/model/StateSet" "members" "[I" (.ref ma) ∧ Fld Z h o0 "com/example/futures_from_states/futuresfromstates/model/StateSet" "size" "I" (.int n2) ∧ Arv Z h ba2 kb2 .long z2 vs2 (.long (0 : Int64)) ∧ Arv Z h ma km .int (16 : Int32) vm2 (.int (0 : Int32)) ∧ o0 ≠ ba2 ∧ ba2 ≠ ma ∧ n0 ≤ ba2 ∧ own_inv z2 vs2 vm2 n2 (own_addS S p1) ∧ own_NN z p1 + 2 * z.toNatClampNeg ≤ 2 * z2.toNatClampNeg
theorem pn_5 : plainName "com/example/futures_from_states/futuresfromstates/model/StateSet" = true := by first | (simp [plainName, overriddenIn]; done) | decide +kernel
theorem ef_5 (m : MethodId) (x0 : Addr) (x1 : Int32) : entryFrame m #[(.ref x0), (.int x1)] 4 = mkF m 0 #[.val (.ref x0), .val (.int x1), .unset, .unset] [] := by first | (simp [entryFrame, mkF, argsToLocals, Value.category]; done) | rfl
theorem d5_122 : decode prog_83_method_2_code 122 = .ok (.ireturn, 1) := by decide +kernel
set_option maxRecDepth 65536 in
set_option maxHeartbeats 40000000 in
theorem rm5 (l : Launch) (Z : State) (a0 : Array Value) (hw : ∀ d ∈ tables_1, d.before a0 Z = true) (ws : List Jvm.Cond) (o0 : Addr) (p1 : Int32) (ba : Addr) (ma : Addr) (kb : ClassId) (km : ClassId) (z : Int32) (vs : List Value) (vm : List Value) (n : Int32) (S : List Int32) (h0 : Heap) (n0 : Nat) (Z0 : n0 ≤ h0.size) (E_o0 : Exa Z h0 o0 "com/example/futures_from_states/futuresfromstates/model/StateSet") (F_bits_o0 : Fld Z h0 o0 "com/example/futures_from_states/futuresfromstates/model/StateSet" "bits" "[J" (.ref ba)) (F_members_o0 : Fld Z h0 o0 "com/example/futures_from_states/futuresfromstates/model/StateSet" "members" "[I" (.ref ma)) (F_size_o0 : Fld Z h0 o0 "com/example/futures_from_states/futuresfromstates/model/StateSet" "size" "I" (.int n)) (V_ba : Arv Z h0 ba kb .long z vs (.long (0 : Int64))) (V_ma : Arv Z h0 ma km .int (16 : Int32) vm (.int (0 : Int32))) (ne_o0_ba : o0 ≠ ba) (ne_o0_ma : o0 ≠ ma) (ne_ba_ma : ba ≠ ma) (g_o0 : n0 ≤ o0) (g_ba : n0 ≤ ba) (g_ma : n0 ≤ ma) (hI : own_inv z vs vm n S) (hp : own_ok p1) (hS : S.length ≤ 5) :
    MetFree l (⟨"com/example/futures_from_states/futuresfromstates/model/StateSet", "add", "(I)Z"⟩ : MethodName) (head1 (Jvm.Cond.code (⟨"com/example/futures_from_states/futuresfromstates/model/StateSet", "add", "(I)Z"⟩ : MethodName) prog_83_method_2_code 4 (some .boolean) :: ws) ({ frames := 2, cells := 1, slots := (own_NN z p1), locals := 51 } : Room)) (fun a U => a = #[(.ref o0), (.int p1)] ∧ Z.Warmed39 U.vm ∧ U.heap = h0) (fun _ _ _ _ _ => True) (fun _ U o U' => ∃ v L, o = .returned v ∧ Q_rm5 Z o0 p1 ba ma kb km z vs vm n S h0 n0 v U'.heap L ∧ FrameEnd U o U' L ({ frames := 2, cells := 1, slots := (own_NN z p1), locals := 51 } : Room).cells ({ frames := 2, cells := 1, slots := (own_NN z p1), locals := 51 } : Room).slots) := by
  refine MetFree.of_bodySF (plainFor_of_name pn_5) hisR ?_
  intro p e s m args below meth c s₁ Bd hml0 hP hK
  obtain ⟨rfl, hZ, hh⟩ := hP
  have hx := Bd.exec
  have hby := Bd.bytes
  have hml : c.maxLocals = 4 := hml0
  have hown : s.vm.findClass "com/example/futures_from_states/futuresfromstates/model/StateSet" = some m.cls := findClass_of_methodNamed Bd.named
  have hnm := (name_of_methodNamed Bd.named Bd.method).1
  have X0 : Stand p l e ({ frames := 2, cells := 1, slots := (own_NN z p1), locals := 51 } : Room) s m #[(.ref o0), (.int p1)] below meth c s₁ [] 0 0 := Stand.of_body Bd
  have e0 : s₁.heap = h0 := by rw [← hh, Bd.state]; rfl
  have N0 := Fr.nil n0
  have Kp0 : Keep h0 h0 [o0, ba, ma] := Keep.refl _ _
  have K0 : Steps p.tables e below (s₁.setTop (entryFrame m #[(.ref o0), (.int p1)] 4)) (s₁.setTop (mkF m 0 #[.val (.ref o0), .val (.int p1), .unset, .unset] [])) := castTop (ef_5 m o0 p1) (Steps.refl _)
  have K1 : Steps p.tables e below _ (s₁.setTop (mkF m 4 #[.val (.ref o0), .val (.int p1), .unset, .unset] [(.int ((p1.toUInt32 >>> ((6 : Int32) &&& 31).toUInt32).toInt32))])) := K0.trans (by
    refine XS.iloadN X0.here hx rfl (hb hby d5_0) rfl ?_
    refine XS.bipush X0.here hx rfl (hb hby d5_1) ?_
    refine XS.iushr X0.here hx rfl (hb hby d5_3) rfl ?_
    exact Steps.refl _)
  obtain ⟨wd, hwd⟩ : ∃ zq : Int32, ((p1.toUInt32 >>> ((6 : Int32) &&& 31).toUInt32).toInt32) = zq := ⟨_, rfl⟩
  rw [hwd] at K1
  have K2 : Steps p.tables e below _ (s₁.setTop (mkF m 7 #[.val (.ref o0), .val (.int p1), .val (.int wd), .unset] [(.ref o0), (.int wd)])) := K1.trans (by
    refine XS.istoreN X0.here hx rfl (hb hby d5_4) rfl (l' := #[.val (.ref o0), .val (.int p1), .val (.int wd), .unset]) rfl ?_
    refine XS.iloadN X0.here hx rfl (hb hby d5_5) rfl ?_
    refine XS.aloadN X0.here hx rfl (hb hby d5_6) rfl rfl ?_
    exact Steps.refl _)
  obtain ⟨T3, X3, e3, st3⟩ := getF X0 hx hZ hown (host := "") (Or.inl (hw _ (List.mem_of_getElem? (i := 11) rfl))) Via.refl e0 F_bits_o0 (g := (mkF m 7 #[.val (.ref o0), .val (.int p1), .val (.int wd), .unset] [(.ref o0), (.int wd)])) rfl rfl (hb hby d5_7)
  have K4 : Steps p.tables e below _ (T3.setTop (mkF m 10 #[.val (.ref o0), .val (.int p1), .val (.int wd), .unset] [(.ref ba), (.int wd)])) := K2.trans (st3 _ (Steps.refl _))
  have K5 : Steps p.tables e below _ (T3.setTop (mkF m 11 #[.val (.ref o0), .val (.int p1), .val (.int wd), .unset] [(.int z), (.int wd)])) := K4.trans (by
    refine (own_len X3 hx hZ e3 V_ba (g := (mkF m 10 #[.val (.ref o0), .val (.int p1), .val (.int wd), .unset] [(.ref ba), (.int wd)])) rfl rfl (hb hby d5_10)).trans ?_
    exact Steps.refl _)
  by_cases hc11 : wd < z
  · have K6 : Steps p.tables e below _ (T3.setTop (mkF m 39 #[.val (.ref o0), .val (.int p1), .val (.int wd), .unset] [(.ref o0)])) := K5.trans (by
      refine XS.icmpYes X3.here hx rfl (pc0 := 11) (pc' := 38) rfl (hb hby d5_11) rfl (tlt hc11).1 (by decide) (by decide) ?_
      refine XS.aloadN X3.here hx rfl (hb hby d5_38) rfl rfl ?_
      exact Steps.refl _)
    obtain ⟨T7, X7, e7, st7⟩ := getF X3 hx hZ hown (host := "") (Or.inl (hw _ (List.mem_of_getElem? (i := 11) rfl))) Via.refl e3 F_bits_o0 (g := (mkF m 39 #[.val (.ref o0), .val (.int p1), .val (.int wd), .unset] [(.ref o0)])) rfl rfl (hb hby d5_39)
    have K8 : Steps p.tables e below _ (T7.setTop (mkF m 42 #[.val (.ref o0), .val (.int p1), .val (.int wd), .unset] [(.ref ba)])) := K6.trans (st7 _ (Steps.refl _))
    have K9 : Steps p.tables e below _ (T7.setTop (mkF m 50 #[.val (.ref o0), .val (.int p1), .val (.int wd), .unset] [(.int (lcmpW ((own_gl vs wd.toNatClampNeg) &&& ((1 : Int64) <<< (p1 &&& 0x3f).toInt64)) (0 : Int64)))])) := K8.trans (by
      refine XS.iloadN X7.here hx rfl (hb hby d5_42) rfl ?_
      refine (own_ldJ X7 hx hZ e7 V_ba (j := wd) (own_in hI hp hwd hc11) (hI.1.2.1 _) (g := (mkF m 43 #[.val (.ref o0), .val (.int p1), .val (.int wd), .unset] [(.int wd), (.ref ba)])) rfl rfl (hb hby d5_43)).trans ?_
      refine XS.lconst X7.here hx rfl (hb hby d5_44) ?_
      refine XS.iloadN X7.here hx rfl (hb hby d5_45) rfl ?_
      refine XS.lshl X7.here hx rfl (hb hby d5_46) rfl ?_
      show Steps p.tables e below (T7.setTop (mkF m 47 #[.val (.ref o0), .val (.int p1), .val (.int wd), .unset] [(.long ((1 : Int64) <<< (p1 &&& 0x3f).toInt64)), (.long (own_gl vs wd.toNatClampNeg))])) _
      refine XS.land X7.here hx rfl (hb hby d5_47) rfl ?_
      refine XS.lconst X7.here hx rfl (hb hby d5_48) ?_
      refine XS.lcmp X7.here hx rfl (hb hby d5_49) rfl ?_
      exact Steps.refl _)
    obtain ⟨v10_0, hv10_0, S10⟩ : ∃ (v10_0 : Int32), (if ((own_gl vs wd.toNatClampNeg) &&& ((1 : Int64) <<< (p1 &&& 0x3f).toInt64)) = (0 : Int64) then (1 : Int32) else (0 : Int32)) = v10_0 ∧ Steps p.tables e below (T7.setTop (mkF m 50 #[.val (.ref o0), .val (.int p1), .val (.int wd), .unset] [(.int (lcmpW ((own_gl vs wd.toNatClampNeg) &&& ((1 : Int64) <<< (p1 &&& 0x3f).toInt64)) (0 : Int64)))])) (T7.setTop (mkF m 58 #[.val (.ref o0), .val (.int p1), .val (.int wd), .unset] [(.int v10_0)])) := by
      have R10 := Steps.refl (tb := p.tables) (e := e) (below := below) (T7.setTop (mkF m 50 #[.val (.ref o0), .val (.int p1), .val (.int wd), .unset] [(.int (lcmpW ((own_gl vs wd.toNatClampNeg) &&& ((1 : Int64) <<< (p1 &&& 0x3f).toInt64)) (0 : Int64)))]))
      by_cases hc50 : ((own_gl vs wd.toNatClampNeg) &&& ((1 : Int64) <<< (p1 &&& 0x3f).toInt64)) = (0 : Int64)
      · have K11 : Steps p.tables e below _ (T7.setTop (mkF m 58 #[.val (.ref o0), .val (.int p1), .val (.int wd), .unset] [(.int (1 : Int32))])) := R10.trans (by
          refine XS.ifNo X7.here hx rfl (hb hby d5_50) rfl ((if0 _ _).trans (teq ((lw_eq ((own_gl vs wd.toNatClampNeg) &&& ((1 : Int64) <<< (p1 &&& 0x3f).toInt64)) (0 : Int64)).mpr hc50)).2) ?_
          refine XS.iconst X7.here hx rfl (hb hby d5_53) ?_
          refine XS.goto X7.here hx rfl (pc0 := 54) (pc' := 58) rfl (hb hby d5_54) (by decide) (by decide) ?_
          exact Steps.refl _)
        exact ⟨(1 : Int32), (by rw [if_pos hc50]), K11⟩
      · have K12 : Steps p.tables e below _ (T7.setTop (mkF m 58 #[.val (.ref o0), .val (.int p1), .val (.int wd), .unset] [(.int (0 : Int32))])) := R10.trans (by
          refine XS.ifYes X7.here hx rfl (pc0 := 50) (pc' := 57) rfl (hb hby d5_50) rfl ((if0 _ _).trans (feq (fun zq => hc50 ((lw_eq ((own_gl vs wd.toNatClampNeg) &&& ((1 : Int64) <<< (p1 &&& 0x3f).toInt64)) (0 : Int64)).mp zq))).2) (by decide) (by decide) ?_
          refine XS.iconst X7.here hx rfl (hb hby d5_57) ?_
          exact Steps.refl _)
        exact ⟨(0 : Int32), (by rw [if_neg hc50]), K12⟩
    have K13 := K9.trans S10
    have K14 : Steps p.tables e below _ (T7.setTop (mkF m 60 #[.val (.ref o0), .val (.int p1), .val (.int wd), .val (.int v10_0)] [(.int v10_0)])) := K13.trans (by
      refine XS.istoreN X7.here hx rfl (hb hby d5_58) rfl (l' := #[.val (.ref o0), .val (.int p1), .val (.int wd), .val (.int v10_0)]) rfl ?_
      refine XS.iloadN X7.here hx rfl (hb hby d5_59) rfl ?_
      exact Steps.refl _)
    by_cases hc60 : v10_0 = (0 : Int32)
    · have K15 : Steps p.tables e below _ (T7.setTop (mkF m 122 #[.val (.ref o0), .val (.int p1), .val (.int wd), .val (.int v10_0)] [(.int v10_0)])) := K14.trans (by
        refine XS.ifYes X7.here hx rfl (pc0 := 60) (pc' := 121) rfl (hb hby d5_60) rfl ((if0 _ _).trans (teq hc60).1) (by decide) (by decide) ?_
        refine XS.iloadN X7.here hx rfl (hb hby d5_121) rfl ?_
        exact Steps.refl _)
      subst hv10_0
      subst hwd
      obtain ⟨fs, hr, hrun, hended, hW, hsame⟩ := X7.leave (v := some (.int ((if ((own_gl vs ((p1.toUInt32 >>> ((6 : Int32) &&& 31).toUInt32).toInt32).toNatClampNeg) &&& ((1 : Int64) <<< (p1 &&& 0x3f).toInt64)) = (0 : Int64) then (1 : Int32) else (0 : Int32)) &&& 1))) (fun h => by rw [Bd.returns] at h; cases h)
      refine ⟨_, _, K15.trans (retN X7 hx (t := .boolean) Bd.returns (by simp) (hb hby d5_122) hr), hrun, hended, _, _, rfl, ?_, ⟨_, rfl⟩, hW, hsame.mono (by exact Nat.le_of_ble_eq_true rfl) (Nat.zero_le _)⟩
      show Q_rm5 Z o0 p1 ba ma kb km z vs vm n S h0 n0 _ T7.heap _
      rw [e7]
      exact ⟨ba, kb, z, vs, vm, n, (own_rt_n hI), N0, Kp0, E_o0, F_bits_o0, F_members_o0, F_size_o0, V_ba, V_ma, ne_o0_ba, ne_ba_ma, g_ba, (own_i0 hI hc60), (own_pot_n hI hp hc11)⟩
    · have K16 : Steps p.tables e below _ (T7.setTop (mkF m 64 #[.val (.ref o0), .val (.int p1), .val (.int wd), .val (.int v10_0)] [(.ref o0)])) := K14.trans (by
        refine XS.ifNo X7.here hx rfl (hb hby d5_60) rfl ((if0 _ _).trans (feq hc60).1) ?_
        refine XS.aloadN X7.here hx rfl (hb hby d5_63) rfl rfl ?_
        exact Steps.refl _)
      obtain ⟨T17, X17, e17, st17⟩ := getF X7 hx hZ hown (host := "") (Or.inl (hw _ (List.mem_of_getElem? (i := 11) rfl))) Via.refl e7 F_bits_o0 (g := (mkF m 64 #[.val (.ref o0), .val (.int p1), .val (.int wd), .val (.int v10_0)] [(.ref o0)])) rfl rfl (hb hby d5_64)
      have K18 : Steps p.tables e below _ (T17.setTop (mkF m 67 #[.val (.ref o0), .val (.int p1), .val (.int wd), .val (.int v10_0)] [(.ref ba)])) := K16.trans (st17 _ (Steps.refl _))
      have K19 : Steps p.tables e below _ (T17.setTop (mkF m 74 #[.val (.ref o0), .val (.int p1), .val (.int wd), .val (.int v10_0)] [(.long ((own_gl vs wd.toNatClampNeg) ||| ((1 : Int64) <<< (p1 &&& 0x3f).toInt64))), (.int wd), (.ref ba)])) := K18.trans (by
        refine XS.iloadN X17.here hx rfl (hb hby d5_67) rfl ?_
        refine Jvm.Free.XT.dup2 X17.here hx rfl (hb hby d5_68) rfl rfl rfl ?_
        refine (own_ldJ X17 hx hZ e17 V_ba (j := wd) (own_in hI hp hwd hc11) (hI.1.2.1 _) (g := (mkF m 69 #[.val (.ref o0), .val (.int p1), .val (.int wd), .val (.int v10_0)] [(.int wd), (.ref ba), (.int wd), (.ref ba)])) rfl rfl (hb hby d5_69)).trans ?_
        refine XS.lconst X17.here hx rfl (hb hby d5_70) ?_
        refine XS.iloadN X17.here hx rfl (hb hby d5_71) rfl ?_
        show Steps p.tables e below (T17.setTop (mkF m 72 #[.val (.ref o0), .val (.int p1), .val (.int wd), .val (.int v10_0)] [(.int p1), (.long (1 : Int64)), (.long (own_gl vs wd.toNatClampNeg)), (.int wd), (.ref ba)])) _
        refine XS.lshl X17.here hx rfl (hb hby d5_72) rfl ?_
        refine XS.lor X17.here hx rfl (hb hby d5_73) rfl ?_
        exact Steps.refl _)
      obtain ⟨T20, h20, X20, e20, W20, V20, st20⟩ := own_stJ X17 hx hZ e17 V_ba (j := wd) (own_in hI hp hwd hc11) wd.toNatClampNeg rfl (own_jn hI hp hwd hc11) (g := (mkF m 74 #[.val (.ref o0), .val (.int p1), .val (.int wd), .val (.int v10_0)] [(.long ((own_gl vs wd.toNatClampNeg) ||| ((1 : Int64) <<< (p1 &&& 0x3f).toInt64))), (.int wd), (.ref ba)])) rfl rfl (hb hby d5_74)
      have K21 : Steps p.tables e below _ (T20.setTop (mkF m 75 #[.val (.ref o0), .val (.int p1), .val (.int wd), .val (.int v10_0)] [])) := K19.trans st20
      have Vw20 : Arv Z h20 ba kb .long z (vs.set wd.toNatClampNeg (.long ((own_gl vs wd.toNatClampNeg) ||| ((1 : Int64) <<< (p1 &&& 0x3f).toInt64)))) (.long (0 : Int64)) := V20
      have N20 := Fr.snoc X20 N0 g_ba
      obtain ⟨Lg20, Xg20, Ng20⟩ : ∃ Lg, Stand p l e ({ frames := 2, cells := 1, slots := (own_NN z p1), locals := 51 } : Room) s m #[(.ref o0), (.int p1)] below meth c T20 Lg 0 0 ∧ Fr n0 Lg := ⟨_, X20, N20⟩
      have K22 : Steps p.tables e below _ (T20.setTop (mkF m 76 #[.val (.ref o0), .val (.int p1), .val (.int wd), .val (.int v10_0)] [(.ref o0)])) := K21.trans (by
        refine XS.aloadN Xg20.here hx rfl (hb hby d5_75) rfl rfl ?_
        exact Steps.refl _)
      have F_23 : Fld Z h20 o0 "com/example/futures_from_states/futuresfromstates/model/StateSet" "size" "I" (.int n) := (F_size_o0.other W20 (Or.inl ne_o0_ba))
      obtain ⟨T24, X24, e24, st24⟩ := getF Xg20 hx hZ hown (host := "") (Or.inl (hw _ (List.mem_of_getElem? (i := 21) rfl))) Via.refl e20 F_23 (g := (mkF m 76 #[.val (.ref o0), .val (.int p1), .val (.int wd), .val (.int v10_0)] [(.ref o0)])) rfl rfl (hb hby d5_76)
      have K25 : Steps p.tables e below _ (T24.setTop (mkF m 79 #[.val (.ref o0), .val (.int p1), .val (.int wd), .val (.int v10_0)] [(.int n)])) := K22.trans (st24 _ (Steps.refl _))
      have K26 : Steps p.tables e below _ (T24.setTop (mkF m 80 #[.val (.ref o0), .val (.int p1), .val (.int wd), .val (.int v10_0)] [(.ref o0), (.int n)])) := K25.trans (by
        refine XS.aloadN X24.here hx rfl (hb hby d5_79) rfl rfl ?_
        exact Steps.refl _)
      have F_27 : Fld Z h20 o0 "com/example/futures_from_states/futuresfromstates/model/StateSet" "members" "[I" (.ref ma) := (F_members_o0.other W20 (Or.inl ne_o0_ba))
      obtain ⟨T28, X28, e28, st28⟩ := getF X24 hx hZ hown (host := "") (Or.inl (hw _ (List.mem_of_getElem? (i := 14) rfl))) Via.refl e24 F_27 (g := (mkF m 80 #[.val (.ref o0), .val (.int p1), .val (.int wd), .val (.int v10_0)] [(.ref o0), (.int n)])) rfl rfl (hb hby d5_80)
      have K29 : Steps p.tables e below _ (T28.setTop (mkF m 83 #[.val (.ref o0), .val (.int p1), .val (.int wd), .val (.int v10_0)] [(.ref ma), (.int n)])) := K26.trans (st28 _ (Steps.refl _))
      have V_30 : Arv Z h20 ma km .int (16 : Int32) vm (.int (0 : Int32)) := (V_ma.other W20 (Ne.symm ne_ba_ma))
      have K32 : Steps p.tables e below _ (T28.setTop (mkF m 84 #[.val (.ref o0), .val (.int p1), .val (.int wd), .val (.int v10_0)] [(.int (16 : Int32)), (.int n)])) := K29.trans (by
        refine (own_len X28 hx hZ e28 V_30 (g := (mkF m 83 #[.val (.ref o0), .val (.int p1), .val (.int wd), .val (.int v10_0)] [(.ref ma), (.int n)])) rfl rfl (hb hby d5_83)).trans ?_
        exact Steps.refl _)
      have hc84_30 : ¬ (n = (16 : Int32)) := own_n16 hI hS
      have K33 : Steps p.tables e below _ (T28.setTop (mkF m 105 #[.val (.ref o0), .val (.int p1), .val (.int wd), .val (.int v10_0)] [(.ref o0)])) := K32.trans (by
        refine XS.icmpYes X28.here hx rfl (pc0 := 84) (pc' := 104) rfl (hb hby d5_84) rfl (feq hc84_30).2 (by decide) (by decide) ?_
        refine XS.aloadN X28.here hx rfl (hb hby d5_104) rfl rfl ?_
        exact Steps.refl _)
      obtain ⟨T34, X34, e34, st34⟩ := getF X28 hx hZ hown (host := "") (Or.inl (hw _ (List.mem_of_getElem? (i := 14) rfl))) Via.refl e28 F_27 (g := (mkF m 105 #[.val (.ref o0), .val (.int p1), .val (.int wd), .val (.int v10_0)] [(.ref o0)])) rfl rfl (hb hby d5_105)
      have K35 : Steps p.tables e below _ (T34.setTop (mkF m 108 #[.val (.ref o0), .val (.int p1), .val (.int wd), .val (.int v10_0)] [(.ref ma)])) := K33.trans (st34 _ (Steps.refl _))
      have K36 : Steps p.tables e below _ (T34.setTop (mkF m 110 #[.val (.ref o0), .val (.int p1), .val (.int wd), .val (.int v10_0)] [(.ref o0), (.ref o0), (.ref ma)])) := K35.trans (by
        refine XS.aloadN X34.here hx rfl (hb hby d5_108) rfl rfl ?_
        refine XS.dup X34.here hx rfl (hb hby d5_109) rfl rfl ?_
        exact Steps.refl _)
      obtain ⟨T37, X37, e37, st37⟩ := getF X34 hx hZ hown (host := "") (Or.inl (hw _ (List.mem_of_getElem? (i := 21) rfl))) Via.refl e34 F_23 (g := (mkF m 110 #[.val (.ref o0), .val (.int p1), .val (.int wd), .val (.int v10_0)] [(.ref o0), (.ref o0), (.ref ma)])) rfl rfl (hb hby d5_110)
      have K38 : Steps p.tables e below _ (T37.setTop (mkF m 113 #[.val (.ref o0), .val (.int p1), .val (.int wd), .val (.int v10_0)] [(.int n), (.ref o0), (.ref ma)])) := K36.trans (st37 _ (Steps.refl _))
      have K39 : Steps p.tables e below _ (T37.setTop (mkF m 116 #[.val (.ref o0), .val (.int p1), .val (.int wd), .val (.int v10_0)] [(.int (n + (1 : Int32))), (.ref o0), (.int n), (.ref ma)])) := K38.trans (by
        refine XS.dupX1 X37.here hx rfl (hb hby d5_113) rfl rfl rfl ?_
        refine XS.iconst X37.here hx rfl (hb hby d5_114) ?_
        refine XS.iadd X37.here hx rfl (hb hby d5_115) rfl ?_
        exact Steps.refl _)
      have E_40 : Exa Z h20 o0 "com/example/futures_from_states/futuresfromstates/model/StateSet" := (E_o0.wr W20)
      obtain ⟨T41, h41, X41, e41, W41, st41⟩ := putF X37 hx hZ hown (host := "") (Or.inl (hw _ (List.mem_of_getElem? (i := 21) rfl))) Via.refl e37 F_23 E_40 (Or.inl (hw _ (List.mem_of_getElem? (i := 22) rfl))) (hw _ (List.mem_of_getElem? (i := 2) rfl)) (ty := .int) (by decide) rfl rfl (g := (mkF m 116 #[.val (.ref o0), .val (.int p1), .val (.int wd), .val (.int v10_0)] [(.int (n + (1 : Int32))), (.ref o0), (.int n), (.ref ma)])) rfl rfl (hb hby d5_116)
      have K42 : Steps p.tables e below _ (T41.setTop (mkF m 119 #[.val (.ref o0), .val (.int p1), .val (.int wd), .val (.int v10_0)] [(.int n), (.ref ma)])) := K39.trans (st41 _ (Steps.refl _))
      have Fw41 : Fld Z h41 o0 "com/example/futures_from_states/futuresfromstates/model/StateSet" "size" "I" (.int (n + (1 : Int32))) := F_23.same W41
      have N41 := Fr.snoc X41 Ng20 g_o0
      have K43 : Steps p.tables e below _ (T41.setTop (mkF m 120 #[.val (.ref o0), .val (.int p1), .val (.int wd), .val (.int v10_0)] [(.int p1), (.int n), (.ref ma)])) := K42.trans (by
        refine XS.iloadN X41.here hx rfl (hb hby d5_119) rfl ?_
        exact Steps.refl _)
      have V_44 : Arv Z h41 ma km .int (16 : Int32) vm (.int (0 : Int32)) := (V_30.other W41 (Ne.symm ne_o0_ma))
      obtain ⟨T45, h45, X45, e45, W45, V45, st45⟩ := own_stI X41 hx hZ e41 V_44 (j := n) (own_nb hI hS) n.toNatClampNeg rfl (own_nl hI hS) (g := (mkF m 120 #[.val (.ref o0), .val (.int p1), .val (.int wd), .val (.int v10_0)] [(.int p1), (.int n), (.ref ma)])) rfl rfl (hb hby d5_120)
      have K46 : Steps p.tables e below _ (T45.setTop (mkF m 121 #[.val (.ref o0), .val (.int p1), .val (.int wd), .val (.int v10_0)] [])) := K43.trans st45
      have Vw45 : Arv Z h45 ma km .int (16 : Int32) (vm.set n.toNatClampNeg (.int p1)) (.int (0 : Int32)) := V45
      have N45 := Fr.snoc X45 N41 g_ma
      obtain ⟨Lg45, Xg45, Ng45⟩ : ∃ Lg, Stand p l e ({ frames := 2, cells := 1, slots := (own_NN z p1), locals := 51 } : Room) s m #[(.ref o0), (.int p1)] below meth c T45 Lg 0 0 ∧ Fr n0 Lg := ⟨_, X45, N45⟩
      have K47 : Steps p.tables e below _ (T45.setTop (mkF m 122 #[.val (.ref o0), .val (.int p1), .val (.int wd), .val (.int v10_0)] [(.int v10_0)])) := K46.trans (by
        refine XS.iloadN Xg45.here hx rfl (hb hby d5_121) rfl ?_
        exact Steps.refl _)
      subst hv10_0
      subst hwd
      obtain ⟨fs, hr, hrun, hended, hW, hsame⟩ := Xg45.leave (v := some (.int ((if ((own_gl vs ((p1.toUInt32 >>> ((6 : Int32) &&& 31).toUInt32).toInt32).toNatClampNeg) &&& ((1 : Int64) <<< (p1 &&& 0x3f).toInt64)) = (0 : Int64) then (1 : Int32) else (0 : Int32)) &&& 1))) (fun h => by rw [Bd.returns] at h; cases h)
      have K_106 : Keep h0 h45 [o0, ba, ma] := (((Kp0.wr W20 (Or.inl (List.mem_of_getElem? (i := 1) rfl))).wr W41 (Or.inl (List.mem_of_getElem? (i := 0) rfl))).wr W45 (Or.inl (List.mem_of_getElem? (i := 2) rfl)))
      have E_107 : Exa Z h45 o0 "com/example/futures_from_states/futuresfromstates/model/StateSet" := ((E_40.wr W41).wr W45)
      have F_108 : Fld Z h45 o0 "com/example/futures_from_states/futuresfromstates/model/StateSet" "bits" "[J" (.ref ba) := (((F_bits_o0.other W20 (Or.inl ne_o0_ba)).other W41 (Or.inr (slot_ne (Or.inl (hw _ (List.mem_of_getElem? (i := 12) rfl))) (Or.inl (hw _ (List.mem_of_getElem? (i := 22) rfl))) (by decide) (t := (.array .long)) (t' := .int) (by decide) (by decide)))).other W45 (Or.inl ne_o0_ma))
      have F_109 : Fld Z h45 o0 "com/example/futures_from_states/futuresfromstates/model/StateSet" "members" "[I" (.ref ma) := ((F_27.other W41 (Or.inr (slot_ne (Or.inl (hw _ (List.mem_of_getElem? (i := 15) rfl))) (Or.inl (hw _ (List.mem_of_getElem? (i := 22) rfl))) (by decide) (t := (.array .int)) (t' := .int) (by decide) (by decide)))).other W45 (Or.inl ne_o0_ma))
      have F_110 : Fld Z h45 o0 "com/example/futures_from_states/futuresfromstates/model/StateSet" "size" "I" (.int (n + (1 : Int32))) := (Fw41.other W45 (Or.inl ne_o0_ma))
      have V_111 : Arv Z h45 ba kb .long z (vs.set ((p1.toUInt32 >>> ((6 : Int32) &&& 31).toUInt32).toInt32).toNatClampNeg (.long ((own_gl vs ((p1.toUInt32 >>> ((6 : Int32) &&& 31).toUInt32).toInt32).toNatClampNeg) ||| ((1 : Int64) <<< (p1 &&& 0x3f).toInt64)))) (.long (0 : Int64)) := ((Vw20.other W41 (Ne.symm ne_o0_ba)).other W45 ne_ba_ma)
      refine ⟨_, _, K47.trans (retN Xg45 hx (t := .boolean) Bd.returns (by simp) (hb hby d5_122) hr), hrun, hended, _, _, rfl, ?_, ⟨_, rfl⟩, hW, hsame.mono (by exact Nat.le_of_ble_eq_true rfl) (Nat.zero_le _)⟩
      show Q_rm5 Z o0 p1 ba ma kb km z vs vm n S h0 n0 _ T45.heap _
      rw [e45]
      exact ⟨ba, kb, z, (vs.set ((p1.toUInt32 >>> ((6 : Int32) &&& 31).toUInt32).toInt32).toNatClampNeg (.long ((own_gl vs ((p1.toUInt32 >>> ((6 : Int32) &&& 31).toUInt32).toInt32).toNatClampNeg) ||| ((1 : Int64) <<< (p1 &&& 0x3f).toInt64)))), (vm.set n.toNatClampNeg (.int p1)), (n + (1 : Int32)), (own_rt_n hI), Ng45, K_106, E_107, F_108, F_109, F_110, V_111, Vw45, ne_o0_ba, ne_ba_ma, g_ba, (own_i1 hI hp hS (own_wz hc11) hc60), (own_pot_n hI hp hc11)⟩
  · have K48 : Steps p.tables e below _ (T3.setTop (mkF m 16 #[.val (.ref o0), .val (.int p1), .val (.int wd), .unset] [(.ref o0), (.ref o0)])) := K5.trans (by
      refine XS.icmpNo X3.here hx rfl (hb hby d5_11) rfl (flt hc11).1 ?_
      refine XS.aloadN X3.here hx rfl (hb hby d5_14) rfl rfl ?_
      refine XS.aloadN X3.here hx rfl (hb hby d5_15) rfl rfl ?_
      exact Steps.refl _)
    obtain ⟨T49, X49, e49, st49⟩ := getF X3 hx hZ hown (host := "") (Or.inl (hw _ (List.mem_of_getElem? (i := 11) rfl))) Via.refl e3 F_bits_o0 (g := (mkF m 16 #[.val (.ref o0), .val (.int p1), .val (.int wd), .unset] [(.ref o0), (.ref o0)])) rfl rfl (hb hby d5_16)
    have K50 : Steps p.tables e below _ (T49.setTop (mkF m 19 #[.val (.ref o0), .val (.int p1), .val (.int wd), .unset] [(.ref ba), (.ref o0)])) := K48.trans (st49 _ (Steps.refl _))
    have K51 : Steps p.tables e below _ (T49.setTop (mkF m 21 #[.val (.ref o0), .val (.int p1), .val (.int wd), .unset] [(.ref o0), (.int (2 : Int32)), (.ref ba), (.ref o0)])) := K50.trans (by
      refine XS.iconst X49.here hx rfl (hb hby d5_19) ?_
      refine XS.aloadN X49.here hx rfl (hb hby d5_20) rfl rfl ?_
      exact Steps.refl _)
    obtain ⟨T52, X52, e52, st52⟩ := getF X49 hx hZ hown (host := "") (Or.inl (hw _ (List.mem_of_getElem? (i := 11) rfl))) Via.refl e49 F_bits_o0 (g := (mkF m 21 #[.val (.ref o0), .val (.int p1), .val (.int wd), .unset] [(.ref o0), (.int (2 : Int32)), (.ref ba), (.ref o0)])) rfl rfl (hb hby d5_21)
    have K53 : Steps p.tables e below _ (T52.setTop (mkF m 24 #[.val (.ref o0), .val (.int p1), .val (.int wd), .unset] [(.ref ba), (.int (2 : Int32)), (.ref ba), (.ref o0)])) := K51.trans (st52 _ (Steps.refl _))
    have K54 : Steps p.tables e below _ (T52.setTop (mkF m 29 #[.val (.ref o0), .val (.int p1), .val (.int wd), .unset] [(.int (wd + (1 : Int32))), (.int ((2 : Int32) * z)), (.ref ba), (.ref o0)])) := K53.trans (by
      refine (own_len X52 hx hZ e52 V_ba (g := (mkF m 24 #[.val (.ref o0), .val (.int p1), .val (.int wd), .unset] [(.ref ba), (.int (2 : Int32)), (.ref ba), (.ref o0)])) rfl rfl (hb hby d5_24)).trans ?_
      refine XS.imul X52.here hx rfl (hb hby d5_25) rfl ?_
      refine XS.iloadN X52.here hx rfl (hb hby d5_26) rfl ?_
      refine XS.iconst X52.here hx rfl (hb hby d5_27) ?_
      refine XS.iadd X52.here hx rfl (hb hby d5_28) rfl ?_
      show Steps p.tables e below (T52.setTop (mkF m 29 #[.val (.ref o0), .val (.int p1), .val (.int wd), .unset] [(.int (wd + (1 : Int32))), (.int ((2 : Int32) * z)), (.ref ba), (.ref o0)])) _
      exact Steps.refl _)
    obtain ⟨_, _, ⟨T55, L55, k55, n55⟩, -, X55, ⟨Lc55, hQ55, l55, y55, z55⟩, st55⟩ := Jvm.LawKit.callS X52 hx (y := (⟨"java/lang/Math", "max", "(II)I"⟩ : MethodName)) hown (mvT hZ (hw _ (List.mem_of_getElem? (i := 34) rfl))) (mvT hZ (hw _ (List.mem_of_getElem? (i := 35) rfl))) (mvT hZ (hw _ (List.mem_of_getElem? (i := 36) rfl))) (mvT hZ (hw _ (List.mem_of_getElem? (i := 37) rfl))) (by decide) (backOf (W := 2) (rm6 l Z a0 hw [] ((2 : Int32) * z) (wd + (1 : Int32)) h0 n0 Z0 ) hZ (hw _ (List.mem_of_getElem? (i := 37) rfl)) (hw _ (List.mem_of_getElem? (i := 36) rfl)) (by exact Nat.le_of_ble_eq_true rfl) (by exact Nat.le_of_ble_eq_true rfl)) (g := (mkF m 29 #[.val (.ref o0), .val (.int p1), .val (.int wd), .unset] [(.int (wd + (1 : Int32))), (.int ((2 : Int32) * z)), (.ref ba), (.ref o0)])) rfl (by rw [hml]; rfl) (argsL := [(.int ((2 : Int32) * z)), (.int (wd + (1 : Int32)))]) (rest := [(.ref ba), (.ref o0)]) (lenOf pd_0 rfl) rfl (by show 2 * 0 + _ ≤ _; exact Nat.le_of_eq rfl) (hb hby d5_29) (fun _ _ => ⟨rfl, e52, (by exact Nat.le_of_ble_eq_true rfl), (Nat.zero_le _)⟩)
    dsimp only [Pt.U, Pt.locs, Pt.cells, Pt.slots] at X55 l55 y55 z55 st55 hQ55
    subst l55 y55 z55
    obtain ⟨rfl, N55, eh55⟩ := hQ55
    have N55' := Fr.app N0 N55
    obtain ⟨Lg55, Xg55, Ng55⟩ : ∃ Lg, Stand p l e ({ frames := 2, cells := 1, slots := (own_NN z p1), locals := 51 } : Room) s m #[(.ref o0), (.int p1)] below meth c T55 Lg 0 0 ∧ Fr n0 Lg := ⟨_, X55, N55'⟩
    have K56 : Steps p.tables e below _ (T55.setTop (mkF m 32 #[.val (.ref o0), .val (.int p1), .val (.int wd), .unset] [(.int (if ((2 : Int32) * z) < (wd + (1 : Int32)) then (wd + (1 : Int32)) else ((2 : Int32) * z))), (.ref ba), (.ref o0)])) := K54.trans (st55 _ (Steps.refl _))
    obtain ⟨nl, hnl⟩ : ∃ zq : Int32, (if ((2 : Int32) * z) < (wd + (1 : Int32)) then (wd + (1 : Int32)) else ((2 : Int32) * z)) = zq := ⟨_, rfl⟩
    rw [hnl] at K56
    obtain ⟨_, _, ⟨T57, L57, k57, n57⟩, -, X57, ⟨Lc57, hQ57, l57, y57, z57⟩, st57⟩ := Jvm.LawKit.callS Xg55 hx (y := (⟨"java/util/Arrays", "copyOf", "([JI)[J"⟩ : MethodName)) hown (mvT hZ (hw _ (List.mem_of_getElem? (i := 38) rfl))) (mvT hZ (hw _ (List.mem_of_getElem? (i := 39) rfl))) (mvT hZ (hw _ (List.mem_of_getElem? (i := 40) rfl))) (mvT hZ (hw _ (List.mem_of_getElem? (i := 41) rfl))) (by decide) (backOf (W := 1) (rm7 l Z a0 hw [] ba nl kb z vs h0 n0 Z0 V_ba (own_cg hI hp hwd hnl hc11)) hZ (hw _ (List.mem_of_getElem? (i := 41) rfl)) (hw _ (List.mem_of_getElem? (i := 40) rfl)) (by exact Nat.le_of_ble_eq_true rfl) (by exact Nat.le_of_ble_eq_true rfl)) (g := (mkF m 32 #[.val (.ref o0), .val (.int p1), .val (.int wd), .unset] [(.int nl), (.ref ba), (.ref o0)])) rfl (by rw [hml]; rfl) (argsL := [(.ref ba), (.int nl)]) (rest := [(.ref o0)]) (lenOf pd_1 rfl) rfl (by show 2 * 0 + _ ≤ _; exact Nat.le_of_eq rfl) (hb hby d5_32) (fun _ _ => ⟨rfl, eh55, (by exact Nat.le_of_ble_eq_true rfl), (own_rm hI hp hwd hnl hc11)⟩)
    dsimp only [Pt.U, Pt.locs, Pt.cells, Pt.slots] at X57 l57 y57 z57 st57 hQ57
    subst l57 y57 z57
    obtain ⟨b57_b4, k4_57, rfl, N57, Kp57, Q57_0, Q57_1, sz57_b4⟩ := hQ57
    have ne_o0_b57_b4 : o0 ≠ b57_b4 := Nat.ne_of_lt (Nat.lt_of_lt_of_le E_o0.lt sz57_b4)
    have ne_ba_b57_b4 : ba ≠ b57_b4 := Nat.ne_of_lt (Nat.lt_of_lt_of_le V_ba.lt sz57_b4)
    have ne_ma_b57_b4 : ma ≠ b57_b4 := Nat.ne_of_lt (Nat.lt_of_lt_of_le V_ma.lt sz57_b4)
    have ge_b57_b4 : n0 ≤ b57_b4 := Nat.le_trans Z0 sz57_b4
    have sz_b57_b4 : h0.size ≤ b57_b4 := Nat.le_trans Kp0.1 sz57_b4
    have N57' := Fr.app Ng55 N57
    obtain ⟨Lg57, Xg57, Ng57⟩ : ∃ Lg, Stand p l e ({ frames := 2, cells := 1, slots := (own_NN z p1), locals := 51 } : Room) s m #[(.ref o0), (.int p1)] below meth c T57 Lg 1 (0 + nl.toNatClampNeg) ∧ Fr n0 Lg := ⟨_, X57, N57'⟩
    have K58 : Steps p.tables e below _ (T57.setTop (mkF m 35 #[.val (.ref o0), .val (.int p1), .val (.int wd), .unset] [(.ref b57_b4), (.ref o0)])) := K56.trans (st57 _ (Steps.refl _))
    have E_59 : Exa Z T57.heap o0 "com/example/futures_from_states/futuresfromstates/model/StateSet" := (E_o0.keep Kp57)
    have F_60 : Fld Z T57.heap o0 "com/example/futures_from_states/futuresfromstates/model/StateSet" "bits" "[J" (.ref ba) := (F_bits_o0.keep Kp57 nin0)
    obtain ⟨T61, h61, X61, e61, W61, st61⟩ := putF Xg57 hx hZ hown (host := "") (Or.inl (hw _ (List.mem_of_getElem? (i := 11) rfl))) Via.refl rfl F_60 E_59 (Or.inl (hw _ (List.mem_of_getElem? (i := 12) rfl))) (hw _ (List.mem_of_getElem? (i := 2) rfl)) (ty := (.array .long)) (by decide) rfl rfl (g := (mkF m 35 #[.val (.ref o0), .val (.int p1), .val (.int wd), .unset] [(.ref b57_b4), (.ref o0)])) rfl rfl (hb hby d5_35)
    have K62 : Steps p.tables e below _ (T61.setTop (mkF m 38 #[.val (.ref o0), .val (.int p1), .val (.int wd), .unset] [])) := K58.trans (st61 _ (Steps.refl _))
    have Fw61 : Fld Z h61 o0 "com/example/futures_from_states/futuresfromstates/model/StateSet" "bits" "[J" (.ref b57_b4) := F_60.same W61
    have N61 := Fr.snoc X61 Ng57 g_o0
    have K63 : Steps p.tables e below _ (T61.setTop (mkF m 39 #[.val (.ref o0), .val (.int p1), .val (.int wd), .unset] [(.ref o0)])) := K62.trans (by
      refine XS.aloadN X61.here hx rfl (hb hby d5_38) rfl rfl ?_
      exact Steps.refl _)
    obtain ⟨T64, X64, e64, st64⟩ := getF X61 hx hZ hown (host := "") (Or.inl (hw _ (List.mem_of_getElem? (i := 11) rfl))) Via.refl e61 Fw61 (g := (mkF m 39 #[.val (.ref o0), .val (.int p1), .val (.int wd), .unset] [(.ref o0)])) rfl rfl (hb hby d5_39)
    have K65 : Steps p.tables e below _ (T64.setTop (mkF m 42 #[.val (.ref o0), .val (.int p1), .val (.int wd), .unset] [(.ref b57_b4)])) := K63.trans (st64 _ (Steps.refl _))
    have V_66 : Arv Z h61 b57_b4 k4_57 .long nl (own_cp nl.toNatClampNeg z.toNatClampNeg vs (.long (0 : Int64))) (.long (0 : Int64)) := (Q57_1.other W61 (Ne.symm ne_o0_b57_b4))
    have K67 : Steps p.tables e below _ (T64.setTop (mkF m 50 #[.val (.ref o0), .val (.int p1), .val (.int wd), .unset] [(.int (lcmpW ((own_gl (own_cp nl.toNatClampNeg z.toNatClampNeg vs (.long (0 : Int64))) wd.toNatClampNeg) &&& ((1 : Int64) <<< (p1 &&& 0x3f).toInt64)) (0 : Int64)))])) := K65.trans (by
      refine XS.iloadN X64.here hx rfl (hb hby d5_42) rfl ?_
      refine (own_ldJ X64 hx hZ e64 V_66 (j := wd) (own_ig hI hp hwd hnl hc11) (own_lg hI hp hwd hnl hc11 _) (g := (mkF m 43 #[.val (.ref o0), .val (.int p1), .val (.int wd), .unset] [(.int wd), (.ref b57_b4)])) rfl rfl (hb hby d5_43)).trans ?_
      refine XS.lconst X64.here hx rfl (hb hby d5_44) ?_
      refine XS.iloadN X64.here hx rfl (hb hby d5_45) rfl ?_
      refine XS.lshl X64.here hx rfl (hb hby d5_46) rfl ?_
      show Steps p.tables e below (T64.setTop (mkF m 47 #[.val (.ref o0), .val (.int p1), .val (.int wd), .unset] [(.long ((1 : Int64) <<< (p1 &&& 0x3f).toInt64)), (.long (own_gl (own_cp nl.toNatClampNeg z.toNatClampNeg vs (.long (0 : Int64))) wd.toNatClampNeg))])) _
      refine XS.land X64.here hx rfl (hb hby d5_47) rfl ?_
      refine XS.lconst X64.here hx rfl (hb hby d5_48) ?_
      refine XS.lcmp X64.here hx rfl (hb hby d5_49) rfl ?_
      exact Steps.refl _)
    obtain ⟨v68_0, hv68_0, S68⟩ : ∃ (v68_0 : Int32), (if ((own_gl (own_cp nl.toNatClampNeg z.toNatClampNeg vs (.long (0 : Int64))) wd.toNatClampNeg) &&& ((1 : Int64) <<< (p1 &&& 0x3f).toInt64)) = (0 : Int64) then (1 : Int32) else (0 : Int32)) = v68_0 ∧ Steps p.tables e below (T64.setTop (mkF m 50 #[.val (.ref o0), .val (.int p1), .val (.int wd), .unset] [(.int (lcmpW ((own_gl (own_cp nl.toNatClampNeg z.toNatClampNeg vs (.long (0 : Int64))) wd.toNatClampNeg) &&& ((1 : Int64) <<< (p1 &&& 0x3f).toInt64)) (0 : Int64)))])) (T64.setTop (mkF m 58 #[.val (.ref o0), .val (.int p1), .val (.int wd), .unset] [(.int v68_0)])) := by
      have R68 := Steps.refl (tb := p.tables) (e := e) (below := below) (T64.setTop (mkF m 50 #[.val (.ref o0), .val (.int p1), .val (.int wd), .unset] [(.int (lcmpW ((own_gl (own_cp nl.toNatClampNeg z.toNatClampNeg vs (.long (0 : Int64))) wd.toNatClampNeg) &&& ((1 : Int64) <<< (p1 &&& 0x3f).toInt64)) (0 : Int64)))]))
      by_cases hc50 : ((own_gl (own_cp nl.toNatClampNeg z.toNatClampNeg vs (.long (0 : Int64))) wd.toNatClampNeg) &&& ((1 : Int64) <<< (p1 &&& 0x3f).toInt64)) = (0 : Int64)
      · have K69 : Steps p.tables e below _ (T64.setTop (mkF m 58 #[.val (.ref o0), .val (.int p1), .val (.int wd), .unset] [(.int (1 : Int32))])) := R68.trans (by
          refine XS.ifNo X64.here hx rfl (hb hby d5_50) rfl ((if0 _ _).trans (teq ((lw_eq ((own_gl (own_cp nl.toNatClampNeg z.toNatClampNeg vs (.long (0 : Int64))) wd.toNatClampNeg) &&& ((1 : Int64) <<< (p1 &&& 0x3f).toInt64)) (0 : Int64)).mpr hc50)).2) ?_
          refine XS.iconst X64.here hx rfl (hb hby d5_53) ?_
          refine XS.goto X64.here hx rfl (pc0 := 54) (pc' := 58) rfl (hb hby d5_54) (by decide) (by decide) ?_
          exact Steps.refl _)
        exact ⟨(1 : Int32), (by rw [if_pos hc50]), K69⟩
      · have K70 : Steps p.tables e below _ (T64.setTop (mkF m 58 #[.val (.ref o0), .val (.int p1), .val (.int wd), .unset] [(.int (0 : Int32))])) := R68.trans (by
          refine XS.ifYes X64.here hx rfl (pc0 := 50) (pc' := 57) rfl (hb hby d5_50) rfl ((if0 _ _).trans (feq (fun zq => hc50 ((lw_eq ((own_gl (own_cp nl.toNatClampNeg z.toNatClampNeg vs (.long (0 : Int64))) wd.toNatClampNeg) &&& ((1 : Int64) <<< (p1 &&& 0x3f).toInt64)) (0 : Int64)).mp zq))).2) (by decide) (by decide) ?_
          refine XS.iconst X64.here hx rfl (hb hby d5_57) ?_
          exact Steps.refl _)
        exact ⟨(0 : Int32), (by rw [if_neg hc50]), K70⟩
    have K71 := K67.trans S68
    have K72 : Steps p.tables e below _ (T64.setTop (mkF m 60 #[.val (.ref o0), .val (.int p1), .val (.int wd), .val (.int v68_0)] [(.int v68_0)])) := K71.trans (by
      refine XS.istoreN X64.here hx rfl (hb hby d5_58) rfl (l' := #[.val (.ref o0), .val (.int p1), .val (.int wd), .val (.int v68_0)]) rfl ?_
      refine XS.iloadN X64.here hx rfl (hb hby d5_59) rfl ?_
      exact Steps.refl _)
    by_cases hc60 : v68_0 = (0 : Int32)
    · have K73 : Steps p.tables e below _ (T64.setTop (mkF m 122 #[.val (.ref o0), .val (.int p1), .val (.int wd), .val (.int v68_0)] [(.int v68_0)])) := K72.trans (by
        refine XS.ifYes X64.here hx rfl (pc0 := 60) (pc' := 121) rfl (hb hby d5_60) rfl ((if0 _ _).trans (teq hc60).1) (by decide) (by decide) ?_
        refine XS.iloadN X64.here hx rfl (hb hby d5_121) rfl ?_
        exact Steps.refl _)
      subst hv68_0
      subst hnl
      subst hwd
      obtain ⟨fs, hr, hrun, hended, hW, hsame⟩ := X64.leave (v := some (.int ((if ((own_gl (own_cp (if ((2 : Int32) * z) < (((p1.toUInt32 >>> ((6 : Int32) &&& 31).toUInt32).toInt32) + (1 : Int32)) then (((p1.toUInt32 >>> ((6 : Int32) &&& 31).toUInt32).toInt32) + (1 : Int32)) else ((2 : Int32) * z)).toNatClampNeg z.toNatClampNeg vs (.long (0 : Int64))) ((p1.toUInt32 >>> ((6 : Int32) &&& 31).toUInt32).toInt32).toNatClampNeg) &&& ((1 : Int64) <<< (p1 &&& 0x3f).toInt64)) = (0 : Int64) then (1 : Int32) else (0 : Int32)) &&& 1))) (fun h => by rw [Bd.returns] at h; cases h)
      have K_112 : Keep h0 h61 [o0, ba, ma] := ((Kp0.trans Kp57 all0).wr W61 (Or.inl (List.mem_of_getElem? (i := 0) rfl)))
      have E_113 : Exa Z h61 o0 "com/example/futures_from_states/futuresfromstates/model/StateSet" := (E_59.wr W61)
      have F_114 : Fld Z h61 o0 "com/example/futures_from_states/futuresfromstates/model/StateSet" "members" "[I" (.ref ma) := ((F_members_o0.keep Kp57 nin0).other W61 (Or.inr (slot_ne (Or.inl (hw _ (List.mem_of_getElem? (i := 15) rfl))) (Or.inl (hw _ (List.mem_of_getElem? (i := 12) rfl))) (by decide) (t := (.array .int)) (t' := (.array .long)) (by decide) (by decide))))
      have F_115 : Fld Z h61 o0 "com/example/futures_from_states/futuresfromstates/model/StateSet" "size" "I" (.int n) := ((F_size_o0.keep Kp57 nin0).other W61 (Or.inr (slot_ne (Or.inl (hw _ (List.mem_of_getElem? (i := 22) rfl))) (Or.inl (hw _ (List.mem_of_getElem? (i := 12) rfl))) (by decide) (t := .int) (t' := (.array .long)) (by decide) (by decide))))
      have V_116 : Arv Z h61 ma km .int (16 : Int32) vm (.int (0 : Int32)) := ((V_ma.keep Kp57 nin0).other W61 (Ne.symm ne_o0_ma))
      refine ⟨_, _, K73.trans (retN X64 hx (t := .boolean) Bd.returns (by simp) (hb hby d5_122) hr), hrun, hended, _, _, rfl, ?_, ⟨_, rfl⟩, hW, hsame.mono (by exact Nat.le_of_ble_eq_true rfl) (own_rm hI hp rfl rfl hc11)⟩
      show Q_rm5 Z o0 p1 ba ma kb km z vs vm n S h0 n0 _ T64.heap _
      rw [e64]
      exact ⟨b57_b4, k4_57, (if ((2 : Int32) * z) < (((p1.toUInt32 >>> ((6 : Int32) &&& 31).toUInt32).toInt32) + (1 : Int32)) then (((p1.toUInt32 >>> ((6 : Int32) &&& 31).toUInt32).toInt32) + (1 : Int32)) else ((2 : Int32) * z)), (own_cp (if ((2 : Int32) * z) < (((p1.toUInt32 >>> ((6 : Int32) &&& 31).toUInt32).toInt32) + (1 : Int32)) then (((p1.toUInt32 >>> ((6 : Int32) &&& 31).toUInt32).toInt32) + (1 : Int32)) else ((2 : Int32) * z)).toNatClampNeg z.toNatClampNeg vs (.long (0 : Int64))), vm, n, (own_rt_g hI hp rfl hc11), N61, K_112, E_113, Fw61, F_114, F_115, V_66, V_116, ne_o0_b57_b4, (Ne.symm ne_ma_b57_b4), ge_b57_b4, (own_i0 (own_gi9 hI hp rfl hc11) hc60), (own_pot_g hI hp rfl hc11)⟩
    · have K74 : Steps p.tables e below _ (T64.setTop (mkF m 64 #[.val (.ref o0), .val (.int p1), .val (.int wd), .val (.int v68_0)] [(.ref o0)])) := K72.trans (by
        refine XS.ifNo X64.here hx rfl (hb hby d5_60) rfl ((if0 _ _).trans (feq hc60).1) ?_
        refine XS.aloadN X64.here hx rfl (hb hby d5_63) rfl rfl ?_
        exact Steps.refl _)
      obtain ⟨T75, X75, e75, st75⟩ := getF X64 hx hZ hown (host := "") (Or.inl (hw _ (List.mem_of_getElem? (i := 11) rfl))) Via.refl e64 Fw61 (g := (mkF m 64 #[.val (.ref o0), .val (.int p1), .val (.int wd), .val (.int v68_0)] [(.ref o0)])) rfl rfl (hb hby d5_64)
      have K76 : Steps p.tables e below _ (T75.setTop (mkF m 67 #[.val (.ref o0), .val (.int p1), .val (.int wd), .val (.int v68_0)] [(.ref b57_b4)])) := K74.trans (st75 _ (Steps.refl _))
      have K77 : Steps p.tables e below _ (T75.setTop (mkF m 74 #[.val (.ref o0), .val (.int p1), .val (.int wd), .val (.int v68_0)] [(.long ((own_gl (own_cp nl.toNatClampNeg z.toNatClampNeg vs (.long (0 : Int64))) wd.toNatClampNeg) ||| ((1 : Int64) <<< (p1 &&& 0x3f).toInt64))), (.int wd), (.ref b57_b4)])) := K76.trans (by
        refine XS.iloadN X75.here hx rfl (hb hby d5_67) rfl ?_
        refine Jvm.Free.XT.dup2 X75.here hx rfl (hb hby d5_68) rfl rfl rfl ?_
        refine (own_ldJ X75 hx hZ e75 V_66 (j := wd) (own_ig hI hp hwd hnl hc11) (own_lg hI hp hwd hnl hc11 _) (g := (mkF m 69 #[.val (.ref o0), .val (.int p1), .val (.int wd), .val (.int v68_0)] [(.int wd), (.ref b57_b4), (.int wd), (.ref b57_b4)])) rfl rfl (hb hby d5_69)).trans ?_
        refine XS.lconst X75.here hx rfl (hb hby d5_70) ?_
        refine XS.iloadN X75.here hx rfl (hb hby d5_71) rfl ?_
        show Steps p.tables e below (T75.setTop (mkF m 72 #[.val (.ref o0), .val (.int p1), .val (.int wd), .val (.int v68_0)] [(.int p1), (.long (1 : Int64)), (.long (own_gl (own_cp nl.toNatClampNeg z.toNatClampNeg vs (.long (0 : Int64))) wd.toNatClampNeg)), (.int wd), (.ref b57_b4)])) _
        refine XS.lshl X75.here hx rfl (hb hby d5_72) rfl ?_
        refine XS.lor X75.here hx rfl (hb hby d5_73) rfl ?_
        exact Steps.refl _)
      obtain ⟨T78, h78, X78, e78, W78, V78, st78⟩ := own_stJ X75 hx hZ e75 V_66 (j := wd) (own_ig hI hp hwd hnl hc11) wd.toNatClampNeg rfl (own_jg hI hp hwd hnl hc11) (g := (mkF m 74 #[.val (.ref o0), .val (.int p1), .val (.int wd), .val (.int v68_0)] [(.long ((own_gl (own_cp nl.toNatClampNeg z.toNatClampNeg vs (.long (0 : Int64))) wd.toNatClampNeg) ||| ((1 : Int64) <<< (p1 &&& 0x3f).toInt64))), (.int wd), (.ref b57_b4)])) rfl rfl (hb hby d5_74)
      have K79 : Steps p.tables e below _ (T78.setTop (mkF m 75 #[.val (.ref o0), .val (.int p1), .val (.int wd), .val (.int v68_0)] [])) := K77.trans st78
      have Vw78 : Arv Z h78 b57_b4 k4_57 .long nl ((own_cp nl.toNatClampNeg z.toNatClampNeg vs (.long (0 : Int64))).set wd.toNatClampNeg (.long ((own_gl (own_cp nl.toNatClampNeg z.toNatClampNeg vs (.long (0 : Int64))) wd.toNatClampNeg) ||| ((1 : Int64) <<< (p1 &&& 0x3f).toInt64)))) (.long (0 : Int64)) := V78
      have N78 := Fr.snoc X78 N61 ge_b57_b4
      obtain ⟨Lg78, Xg78, Ng78⟩ : ∃ Lg, Stand p l e ({ frames := 2, cells := 1, slots := (own_NN z p1), locals := 51 } : Room) s m #[(.ref o0), (.int p1)] below meth c T78 Lg 1 (0 + nl.toNatClampNeg) ∧ Fr n0 Lg := ⟨_, X78, N78⟩
      have K80 : Steps p.tables e below _ (T78.setTop (mkF m 76 #[.val (.ref o0), .val (.int p1), .val (.int wd), .val (.int v68_0)] [(.ref o0)])) := K79.trans (by
        refine XS.aloadN Xg78.here hx rfl (hb hby d5_75) rfl rfl ?_
        exact Steps.refl _)
      have F_81 : Fld Z h78 o0 "com/example/futures_from_states/futuresfromstates/model/StateSet" "size" "I" (.int n) := (((F_size_o0.keep Kp57 nin0).other W61 (Or.inr (slot_ne (Or.inl (hw _ (List.mem_of_getElem? (i := 22) rfl))) (Or.inl (hw _ (List.mem_of_getElem? (i := 12) rfl))) (by decide) (t := .int) (t' := (.array .long)) (by decide) (by decide)))).other W78 (Or.inl ne_o0_b57_b4))
      obtain ⟨T82, X82, e82, st82⟩ := getF Xg78 hx hZ hown (host := "") (Or.inl (hw _ (List.mem_of_getElem? (i := 21) rfl))) Via.refl e78 F_81 (g := (mkF m 76 #[.val (.ref o0), .val (.int p1), .val (.int wd), .val (.int v68_0)] [(.ref o0)])) rfl rfl (hb hby d5_76)
      have K83 : Steps p.tables e below _ (T82.setTop (mkF m 79 #[.val (.ref o0), .val (.int p1), .val (.int wd), .val (.int v68_0)] [(.int n)])) := K80.trans (st82 _ (Steps.refl _))
      have K84 : Steps p.tables e below _ (T82.setTop (mkF m 80 #[.val (.ref o0), .val (.int p1), .val (.int wd), .val (.int v68_0)] [(.ref o0), (.int n)])) := K83.trans (by
        refine XS.aloadN X82.here hx rfl (hb hby d5_79) rfl rfl ?_
        exact Steps.refl _)
      have F_85 : Fld Z h78 o0 "com/example/futures_from_states/futuresfromstates/model/StateSet" "members" "[I" (.ref ma) := (((F_members_o0.keep Kp57 nin0).other W61 (Or.inr (slot_ne (Or.inl (hw _ (List.mem_of_getElem? (i := 15) rfl))) (Or.inl (hw _ (List.mem_of_getElem? (i := 12) rfl))) (by decide) (t := (.array .int)) (t' := (.array .long)) (by decide) (by decide)))).other W78 (Or.inl ne_o0_b57_b4))
      obtain ⟨T86, X86, e86, st86⟩ := getF X82 hx hZ hown (host := "") (Or.inl (hw _ (List.mem_of_getElem? (i := 14) rfl))) Via.refl e82 F_85 (g := (mkF m 80 #[.val (.ref o0), .val (.int p1), .val (.int wd), .val (.int v68_0)] [(.ref o0), (.int n)])) rfl rfl (hb hby d5_80)
      have K87 : Steps p.tables e below _ (T86.setTop (mkF m 83 #[.val (.ref o0), .val (.int p1), .val (.int wd), .val (.int v68_0)] [(.ref ma), (.int n)])) := K84.trans (st86 _ (Steps.refl _))
      have V_88 : Arv Z h78 ma km .int (16 : Int32) vm (.int (0 : Int32)) := (((V_ma.keep Kp57 nin0).other W61 (Ne.symm ne_o0_ma)).other W78 ne_ma_b57_b4)
      have K90 : Steps p.tables e below _ (T86.setTop (mkF m 84 #[.val (.ref o0), .val (.int p1), .val (.int wd), .val (.int v68_0)] [(.int (16 : Int32)), (.int n)])) := K87.trans (by
        refine (own_len X86 hx hZ e86 V_88 (g := (mkF m 83 #[.val (.ref o0), .val (.int p1), .val (.int wd), .val (.int v68_0)] [(.ref ma), (.int n)])) rfl rfl (hb hby d5_83)).trans ?_
        exact Steps.refl _)
      have hc84_88 : ¬ (n = (16 : Int32)) := own_n16 hI hS
      have K91 : Steps p.tables e below _ (T86.setTop (mkF m 105 #[.val (.ref o0), .val (.int p1), .val (.int wd), .val (.int v68_0)] [(.ref o0)])) := K90.trans (by
        refine XS.icmpYes X86.here hx rfl (pc0 := 84) (pc' := 104) rfl (hb hby d5_84) rfl (feq hc84_88).2 (by decide) (by decide) ?_
        refine XS.aloadN X86.here hx rfl (hb hby d5_104) rfl rfl ?_
        exact Steps.refl _)
      obtain ⟨T92, X92, e92, st92⟩ := getF X86 hx hZ hown (host := "") (Or.inl (hw _ (List.mem_of_getElem? (i := 14) rfl))) Via.refl e86 F_85 (g := (mkF m 105 #[.val (.ref o0), .val (.int p1), .val (.int wd), .val (.int v68_0)] [(.ref o0)])) rfl rfl (hb hby d5_105)
      have K93 : Steps p.tables e below _ (T92.setTop (mkF m 108 #[.val (.ref o0), .val (.int p1), .val (.int wd), .val (.int v68_0)] [(.ref ma)])) := K91.trans (st92 _ (Steps.refl _))
      have K94 : Steps p.tables e below _ (T92.setTop (mkF m 110 #[.val (.ref o0), .val (.int p1), .val (.int wd), .val (.int v68_0)] [(.ref o0), (.ref o0), (.ref ma)])) := K93.trans (by
        refine XS.aloadN X92.here hx rfl (hb hby d5_108) rfl rfl ?_
        refine XS.dup X92.here hx rfl (hb hby d5_109) rfl rfl ?_
        exact Steps.refl _)
      obtain ⟨T95, X95, e95, st95⟩ := getF X92 hx hZ hown (host := "") (Or.inl (hw _ (List.mem_of_getElem? (i := 21) rfl))) Via.refl e92 F_81 (g := (mkF m 110 #[.val (.ref o0), .val (.int p1), .val (.int wd), .val (.int v68_0)] [(.ref o0), (.ref o0), (.ref ma)])) rfl rfl (hb hby d5_110)
      have K96 : Steps p.tables e below _ (T95.setTop (mkF m 113 #[.val (.ref o0), .val (.int p1), .val (.int wd), .val (.int v68_0)] [(.int n), (.ref o0), (.ref ma)])) := K94.trans (st95 _ (Steps.refl _))
      have K97 : Steps p.tables e below _ (T95.setTop (mkF m 116 #[.val (.ref o0), .val (.int p1), .val (.int wd), .val (.int v68_0)] [(.int (n + (1 : Int32))), (.ref o0), (.int n), (.ref ma)])) := K96.trans (by
        refine XS.dupX1 X95.here hx rfl (hb hby d5_113) rfl rfl rfl ?_
        refine XS.iconst X95.here hx rfl (hb hby d5_114) ?_
        refine XS.iadd X95.here hx rfl (hb hby d5_115) rfl ?_
        exact Steps.refl _)
      have E_98 : Exa Z h78 o0 "com/example/futures_from_states/futuresfromstates/model/StateSet" := ((E_59.wr W61).wr W78)
      obtain ⟨T99, h99, X99, e99, W99, st99⟩ := putF X95 hx hZ hown (host := "") (Or.inl (hw _ (List.mem_of_getElem? (i := 21) rfl))) Via.refl e95 F_81 E_98 (Or.inl (hw _ (List.mem_of_getElem? (i := 22) rfl))) (hw _ (List.mem_of_getElem? (i := 2) rfl)) (ty := .int) (by decide) rfl rfl (g := (mkF m 116 #[.val (.ref o0), .val (.int p1), .val (.int wd), .val (.int v68_0)] [(.int (n + (1 : Int32))), (.ref o0), (.int n), (.ref ma)])) rfl rfl (hb hby d5_116)
      have K100 : Steps p.tables e below _ (T99.setTop (mkF m 119 #[.val (.ref o0), .val (.int p1), .val (.int wd), .val (.int v68_0)] [(.int n), (.ref ma)])) := K97.trans (st99 _ (Steps.refl _))
      have Fw99 : Fld Z h99 o0 "com/example/futures_from_states/futuresfromstates/model/StateSet" "size" "I" (.int (n + (1 : Int32))) := F_81.same W99
      have N99 := Fr.snoc X99 Ng78 g_o0
      have K101 : Steps p.tables e below _ (T99.setTop (mkF m 120 #[.val (.ref o0), .val (.int p1), .val (.int wd), .val (.int v68_0)] [(.int p1), (.int n), (.ref ma)])) := K100.trans (by
        refine XS.iloadN X99.here hx rfl (hb hby d5_119) rfl ?_
        exact Steps.refl _)
      have V_102 : Arv Z h99 ma km .int (16 : Int32) vm (.int (0 : Int32)) := (V_88.other W99 (Ne.symm ne_o0_ma))
      obtain ⟨T103, h103, X103, e103, W103, V103, st103⟩ := own_stI X99 hx hZ e99 V_102 (j := n) (own_nb hI hS) n.toNatClampNeg rfl (own_nl hI hS) (g := (mkF m 120 #[.val (.ref o0), .val (.int p1), .val (.int wd), .val (.int v68_0)] [(.int p1), (.int n), (.ref ma)])) rfl rfl (hb hby d5_120)
      have K104 : Steps p.tables e below _ (T103.setTop (mkF m 121 #[.val (.ref o0), .val (.int p1), .val (.int wd), .val (.int v68_0)] [])) := K101.trans st103
      have Vw103 : Arv Z h103 ma km .int (16 : Int32) (vm.set n.toNatClampNeg (.int p1)) (.int (0 : Int32)) := V103
      have N103 := Fr.snoc X103 N99 g_ma
      obtain ⟨Lg103, Xg103, Ng103⟩ : ∃ Lg, Stand p l e ({ frames := 2, cells := 1, slots := (own_NN z p1), locals := 51 } : Room) s m #[(.ref o0), (.int p1)] below meth c T103 Lg 1 (0 + nl.toNatClampNeg) ∧ Fr n0 Lg := ⟨_, X103, N103⟩
      have K105 : Steps p.tables e below _ (T103.setTop (mkF m 122 #[.val (.ref o0), .val (.int p1), .val (.int wd), .val (.int v68_0)] [(.int v68_0)])) := K104.trans (by
        refine XS.iloadN Xg103.here hx rfl (hb hby d5_121) rfl ?_
        exact Steps.refl _)
      subst hv68_0
      subst hnl
      subst hwd
      obtain ⟨fs, hr, hrun, hended, hW, hsame⟩ := Xg103.leave (v := some (.int ((if ((own_gl (own_cp (if ((2 : Int32) * z) < (((p1.toUInt32 >>> ((6 : Int32) &&& 31).toUInt32).toInt32) + (1 : Int32)) then (((p1.toUInt32 >>> ((6 : Int32) &&& 31).toUInt32).toInt32) + (1 : Int32)) else ((2 : Int32) * z)).toNatClampNeg z.toNatClampNeg vs (.long (0 : Int64))) ((p1.toUInt32 >>> ((6 : Int32) &&& 31).toUInt32).toInt32).toNatClampNeg) &&& ((1 : Int64) <<< (p1 &&& 0x3f).toInt64)) = (0 : Int64) then (1 : Int32) else (0 : Int32)) &&& 1))) (fun h => by rw [Bd.returns] at h; cases h)
      have K_117 : Keep h0 h103 [o0, ba, ma] := (((((Kp0.trans Kp57 all0).wr W61 (Or.inl (List.mem_of_getElem? (i := 0) rfl))).wr W78 (Or.inr sz_b57_b4)).wr W99 (Or.inl (List.mem_of_getElem? (i := 0) rfl))).wr W103 (Or.inl (List.mem_of_getElem? (i := 2) rfl)))
      have E_118 : Exa Z h103 o0 "com/example/futures_from_states/futuresfromstates/model/StateSet" := ((E_98.wr W99).wr W103)
      have F_119 : Fld Z h103 o0 "com/example/futures_from_states/futuresfromstates/model/StateSet" "bits" "[J" (.ref b57_b4) := (((Fw61.other W78 (Or.inl ne_o0_b57_b4)).other W99 (Or.inr (slot_ne (Or.inl (hw _ (List.mem_of_getElem? (i := 12) rfl))) (Or.inl (hw _ (List.mem_of_getElem? (i := 22) rfl))) (by decide) (t := (.array .long)) (t' := .int) (by decide) (by decide)))).other W103 (Or.inl ne_o0_ma))
      have F_120 : Fld Z h103 o0 "com/example/futures_from_states/futuresfromstates/model/StateSet" "members" "[I" (.ref ma) := ((F_85.other W99 (Or.inr (slot_ne (Or.inl (hw _ (List.mem_of_getElem? (i := 15) rfl))) (Or.inl (hw _ (List.mem_of_getElem? (i := 22) rfl))) (by decide) (t := (.array .int)) (t' := .int) (by decide) (by decide)))).other W103 (Or.inl ne_o0_ma))
      have F_121 : Fld Z h103 o0 "com/example/futures_from_states/futuresfromstates/model/StateSet" "size" "I" (.int (n + (1 : Int32))) := (Fw99.other W103 (Or.inl ne_o0_ma))
      have V_122 : Arv Z h103 b57_b4 k4_57 .long (if ((2 : Int32) * z) < (((p1.toUInt32 >>> ((6 : Int32) &&& 31).toUInt32).toInt32) + (1 : Int32)) then (((p1.toUInt32 >>> ((6 : Int32) &&& 31).toUInt32).toInt32) + (1 : Int32)) else ((2 : Int32) * z)) ((own_cp (if ((2 : Int32) * z) < (((p1.toUInt32 >>> ((6 : Int32) &&& 31).toUInt32).toInt32) + (1 : Int32)) then (((p1.toUInt32 >>> ((6 : Int32) &&& 31).toUInt32).toInt32) + (1 : Int32)) else ((2 : Int32) * z)).toNatClampNeg z.toNatClampNeg vs (.long (0 : Int64))).set ((p1.toUInt32 >>> ((6 : Int32) &&& 31).toUInt32).toInt32).toNatClampNeg (.long ((own_gl (own_cp (if ((2 : Int32) * z) < (((p1.toUInt32 >>> ((6 : Int32) &&& 31).toUInt32).toInt32) + (1 : Int32)) then (((p1.toUInt32 >>> ((6 : Int32) &&& 31).toUInt32).toInt32) + (1 : Int32)) else ((2 : Int32) * z)).toNatClampNeg z.toNatClampNeg vs (.long (0 : Int64))) ((p1.toUInt32 >>> ((6 : Int32) &&& 31).toUInt32).toInt32).toNatClampNeg) ||| ((1 : Int64) <<< (p1 &&& 0x3f).toInt64)))) (.long (0 : Int64)) := ((Vw78.other W99 (Ne.symm ne_o0_b57_b4)).other W103 (Ne.symm ne_ma_b57_b4))
      refine ⟨_, _, K105.trans (retN Xg103 hx (t := .boolean) Bd.returns (by simp) (hb hby d5_122) hr), hrun, hended, _, _, rfl, ?_, ⟨_, rfl⟩, hW, hsame.mono (by exact Nat.le_of_ble_eq_true rfl) (own_rm hI hp rfl rfl hc11)⟩
      show Q_rm5 Z o0 p1 ba ma kb km z vs vm n S h0 n0 _ T103.heap _
      rw [e103]
      exact ⟨b57_b4, k4_57, (if ((2 : Int32) * z) < (((p1.toUInt32 >>> ((6 : Int32) &&& 31).toUInt32).toInt32) + (1 : Int32)) then (((p1.toUInt32 >>> ((6 : Int32) &&& 31).toUInt32).toInt32) + (1 : Int32)) else ((2 : Int32) * z)), ((own_cp (if ((2 : Int32) * z) < (((p1.toUInt32 >>> ((6 : Int32) &&& 31).toUInt32).toInt32) + (1 : Int32)) then (((p1.toUInt32 >>> ((6 : Int32) &&& 31).toUInt32).toInt32) + (1 : Int32)) else ((2 : Int32) * z)).toNatClampNeg z.toNatClampNeg vs (.long (0 : Int64))).set ((p1.toUInt32 >>> ((6 : Int32) &&& 31).toUInt32).toInt32).toNatClampNeg (.long ((own_gl (own_cp (if ((2 : Int32) * z) < (((p1.toUInt32 >>> ((6 : Int32) &&& 31).toUInt32).toInt32) + (1 : Int32)) then (((p1.toUInt32 >>> ((6 : Int32) &&& 31).toUInt32).toInt32) + (1 : Int32)) else ((2 : Int32) * z)).toNatClampNeg z.toNatClampNeg vs (.long (0 : Int64))) ((p1.toUInt32 >>> ((6 : Int32) &&& 31).toUInt32).toInt32).toNatClampNeg) ||| ((1 : Int64) <<< (p1 &&& 0x3f).toInt64)))), (vm.set n.toNatClampNeg (.int p1)), (n + (1 : Int32)), (own_rt_g hI hp rfl hc11), Ng103, K_117, E_118, F_119, F_120, F_121, V_122, Vw103, ne_o0_b57_b4, (Ne.symm ne_ma_b57_b4), ge_b57_b4, (own_i1 (own_gi9 hI hp rfl hc11) hp hS (own_gr hI.2.1 hp rfl rfl hc11).2.2 hc60), (own_pot_g hI hp rfl hc11)⟩
theorem d3_0 : decode prog_83_method_4_code 0 = .ok (.iconst 0, 1) := by decide +kernel
theorem d3_1 : decode prog_83_method_4_code 1 = .ok (.istore_n 1, 1) := by decide +kernel
theorem d3_2 : decode prog_83_method_4_code 2 = .ok (.iload_n 1, 1) := by decide +kernel
theorem d3_3 : decode prog_83_method_4_code 3 = .ok (.aload_n 0, 1) := by decide +kernel
theorem d3_4 : decode prog_83_method_4_code 4 = .ok (.getfield 29, 3) := by decide +kernel
theorem d3_7 : decode prog_83_method_4_code 7 = .ok (.if_icmp .ge 38, 3) := by decide +kernel
theorem d3_45 : decode prog_83_method_4_code 45 = .ok (.aload_n 0, 1) := by decide +kernel
theorem d3_46 : decode prog_83_method_4_code 46 = .ok (.iconst 0, 1) := by decide +kernel
theorem d3_47 : decode prog_83_method_4_code 47 = .ok (.putfield 29, 3) := by decide +kernel
theorem d3_10 : decode prog_83_method_4_code 10 = .ok (.aload_n 0, 1) := by decide +kernel
theorem d3_11 : decode prog_83_method_4_code 11 = .ok (.getfield 7, 3) := by decide +kernel
theorem d3_14 : decode prog_83_method_4_code 14 = .ok (.aload_n 0, 1) := by decide +kernel
theorem d3_15 : decode prog_83_method_4_code 15 = .ok (.getfield 13, 3) := by decide +kernel
theorem d3_18 : decode prog_83_method_4_code 18 = .ok (.iload_n 1, 1) := by decide +kernel
theorem d3_19 : decode prog_83_method_4_code 19 = .ok (.iaload, 1) := by decide +kernel
theorem d3_20 : decode prog_83_method_4_code 20 = .ok (.bipush 6, 2) := by decide +kernel
theorem d3_22 : decode prog_83_method_4_code 22 = .ok (.iushr, 1) := by decide +kernel
theorem d3_23 : decode prog_83_method_4_code 23 = .ok (.dup2, 1) := by decide +kernel
theorem d3_24 : decode prog_83_method_4_code 24 = .ok (.laload, 1) := by decide +kernel
theorem d3_25 : decode prog_83_method_4_code 25 = .ok (.lconst 1, 1) := by decide +kernel
theorem d3_26 : decode prog_83_method_4_code 26 = .ok (.aload_n 0, 1) := by decide +kernel
theorem d3_27 : decode prog_83_method_4_code 27 = .ok (.getfield 13, 3) := by decide +kernel
theorem d3_30 : decode prog_83_method_4_code 30 = .ok (.iload_n 1, 1) := by decide +kernel
theorem d3_31 : decode prog_83_method_4_code 31 = .ok (.iaload, 1) := by decide +kernel
theorem d3_32 : decode prog_83_method_4_code 32 = .ok (.lshl, 1) := by decide +kernel
theorem d3_33 : decode prog_83_method_4_code 33 = .ok (.ldc2_w 36, 3) := by decide +kernel
theorem d3_36 : decode prog_83_method_4_code 36 = .ok (.lxor, 1) := by decide +kernel
theorem d3_37 : decode prog_83_method_4_code 37 = .ok (.land, 1) := by decide +kernel
theorem d3_38 : decode prog_83_method_4_code 38 = .ok (.lastore, 1) := by decide +kernel
theorem d3_39 : decode prog_83_method_4_code 39 = .ok (.iinc 1 1, 3) := by decide +kernel
theorem d3_42 : decode prog_83_method_4_code 42 = .ok (.goto (-40), 3) := by decide +kernel
def Q_rm3 (Z : State) (o0 : Addr) (ba : Addr) (ma : Addr) (kb : ClassId) (km : ClassId) (z : Int32) (vs : List Value) (vm : List Value) (n : Int32) (S : List Int32) (h0 : Heap) (n0 : Nat) (v : Option Value) (h : Heap) (L : List Loc) : Prop := ∃ vs2 : List Value, v = none ∧ Fr n0 L ∧ Keep h0 h [o0, ba] ∧ Exa Z h o0 "com/example/futures_from_states/futuresfromstates/model/StateSet" ∧ Fld Z h o0 "com/example/futures_from_states/futuresfromstates/model/StateSet" "bits" "[J" (.ref ba) ∧ Fld Z h o0 "com/example/futures_from_states/futuresfromstates/model/StateSet" "members" "[I" (.ref ma) ∧ Fld Z h o0 "com/example/futures_from_states/futuresfromstates/model/StateSet" "size" "I" (.int (0 : Int32)) ∧ Arv Z h ba kb .long z vs2 (.long (0 : Int64)) ∧ own_inv z vs2 vm (0 : Int32) []
theorem pn_3 : plainName "com/example/futures_from_states/futuresfromstates/model/StateSet" = true := by first | (simp [plainName, overriddenIn]; done) | decide +kernel
theorem ef_3 (m : MethodId) (x0 : Addr) : entryFrame m #[(.ref x0)] 2 = mkF m 0 #[.val (.ref x0), .unset] [] := by first | (simp [entryFrame, mkF, argsToLocals, Value.category]; done) | rfl
theorem d3_50 : decode prog_83_method_4_code 50 = .ok (.return_, 1) := by decide +kernel
set_option maxRecDepth 65536 in
set_option maxHeartbeats 40000000 in
theorem rm3 (l : Launch) (Z : State) (a0 : Array Value) (hw : ∀ d ∈ tables_1, d.before a0 Z = true) (ws : List Jvm.Cond) (o0 : Addr) (ba : Addr) (ma : Addr) (kb : ClassId) (km : ClassId) (z : Int32) (vs : List Value) (vm : List Value) (n : Int32) (S : List Int32) (h0 : Heap) (n0 : Nat) (Z0 : n0 ≤ h0.size) (E_o0 : Exa Z h0 o0 "com/example/futures_from_states/futuresfromstates/model/StateSet") (F_bits_o0 : Fld Z h0 o0 "com/example/futures_from_states/futuresfromstates/model/StateSet" "bits" "[J" (.ref ba)) (F_members_o0 : Fld Z h0 o0 "com/example/futures_from_states/futuresfromstates/model/StateSet" "members" "[I" (.ref ma)) (F_size_o0 : Fld Z h0 o0 "com/example/futures_from_states/futuresfromstates/model/StateSet" "size" "I" (.int n)) (V_ba : Arv Z h0 ba kb .long z vs (.long (0 : Int64))) (V_ma : Arv Z h0 ma km .int (16 : Int32) vm (.int (0 : Int32))) (ne_o0_ba : o0 ≠ ba) (ne_o0_ma : o0 ≠ ma) (ne_ba_ma : ba ≠ ma) (g_o0 : n0 ≤ o0) (g_ba : n0 ≤ ba) (hI : own_inv z vs vm n S) (hS : S.length ≤ 3) :
    MetFree l (⟨"com/example/futures_from_states/futuresfromstates/model/StateSet", "clear", "()V"⟩ : MethodName) (head1 (Jvm.Cond.code (⟨"com/example/futures_from_states/futuresfromstates/model/StateSet", "clear", "()V"⟩ : MethodName) prog_83_method_4_code 2 none :: ws) ({ frames := 0, cells := 0, slots := 0, locals := 0 } : Room)) (fun a U => a = #[(.ref o0)] ∧ Z.Warmed39 U.vm ∧ U.heap = h0) (fun _ _ _ _ _ => True) (fun _ U o U' => ∃ v L, o = .returned v ∧ Q_rm3 Z o0 ba ma kb km z vs vm n S h0 n0 v U'.heap L ∧ FrameEnd U o U' L ({ frames := 0, cells := 0, slots := 0, locals := 0 } : Room).cells ({ frames := 0, cells := 0, slots := 0, locals := 0 } : Room).slots) := by
  refine MetFree.of_bodySF (plainFor_of_name pn_3) hisR ?_
  intro p e s m args below meth c s₁ Bd hml0 hP hK
  obtain ⟨rfl, hZ, hh⟩ := hP
  have hx := Bd.exec
  have hby := Bd.bytes
  have hml : c.maxLocals = 2 := hml0
  have hown : s.vm.findClass "com/example/futures_from_states/futuresfromstates/model/StateSet" = some m.cls := findClass_of_methodNamed Bd.named
  have hnm := (name_of_methodNamed Bd.named Bd.method).1
  have X0 : Stand p l e ({ frames := 0, cells := 0, slots := 0, locals := 0 } : Room) s m #[(.ref o0)] below meth c s₁ [] 0 0 := Stand.of_body Bd
  have e0 : s₁.heap = h0 := by rw [← hh, Bd.state]; rfl
  have N0 := Fr.nil n0
  have Kp0 : Keep h0 h0 [o0, ba] := Keep.refl _ _
  have K0 : Steps p.tables e below (s₁.setTop (entryFrame m #[(.ref o0)] 2)) (s₁.setTop (mkF m 0 #[.val (.ref o0), .unset] [])) := castTop (ef_3 m o0) (Steps.refl _)
  have K1 : Steps p.tables e below _ (s₁.setTop (mkF m 2 #[.val (.ref o0), .val (.int (0 : Int32))] [])) := K0.trans (by
    refine XS.iconst X0.here hx rfl (hb hby d3_0) ?_
    refine XS.istoreN X0.here hx rfl (hb hby d3_1) rfl (l' := #[.val (.ref o0), .val (.int (0 : Int32))]) rfl ?_
    exact Steps.refl _)
  rcases own_n3 hI hS with hn | hn | hn | hn
  · have hk := own_k0 hI hn
    rw [hn] at F_size_o0
    have K2 : Steps p.tables e below _ (s₁.setTop (mkF m 4 #[.val (.ref o0), .val (.int (0 : Int32))] [(.ref o0), (.int (0 : Int32))])) := K1.trans (by
      refine XS.iloadN X0.here hx rfl (hb hby d3_2) rfl ?_
      refine XS.aloadN X0.here hx rfl (hb hby d3_3) rfl rfl ?_
      exact Steps.refl _)
    obtain ⟨T3, X3, e3, st3⟩ := getF X0 hx hZ hown (host := "") (Or.inl (hw _ (List.mem_of_getElem? (i := 21) rfl))) Via.refl e0 F_size_o0 (g := (mkF m 4 #[.val (.ref o0), .val (.int (0 : Int32))] [(.ref o0), (.int (0 : Int32))])) rfl rfl (hb hby d3_4)
    have K4 : Steps p.tables e below _ (T3.setTop (mkF m 7 #[.val (.ref o0), .val (.int (0 : Int32))] [(.int (0 : Int32)), (.int (0 : Int32))])) := K2.trans (st3 _ (Steps.refl _))
    have K5 : Steps p.tables e below _ (T3.setTop (mkF m 47 #[.val (.ref o0), .val (.int (0 : Int32))] [(.int (0 : Int32)), (.ref o0)])) := K4.trans (by
      refine XS.icmpYes X3.here hx rfl (pc0 := 7) (pc' := 45) rfl (hb hby d3_7) rfl (flt (by decide : ¬ ((0 : Int32) < (0 : Int32)))).2.1 (by decide) (by decide) ?_
      refine XS.aloadN X3.here hx rfl (hb hby d3_45) rfl rfl ?_
      refine XS.iconst X3.here hx rfl (hb hby d3_46) ?_
      exact Steps.refl _)
    obtain ⟨T6, h6, X6, e6, W6, st6⟩ := putF X3 hx hZ hown (host := "") (Or.inl (hw _ (List.mem_of_getElem? (i := 21) rfl))) Via.refl e3 F_size_o0 E_o0 (Or.inl (hw _ (List.mem_of_getElem? (i := 22) rfl))) (hw _ (List.mem_of_getElem? (i := 2) rfl)) (ty := .int) (by decide) rfl rfl (g := (mkF m 47 #[.val (.ref o0), .val (.int (0 : Int32))] [(.int (0 : Int32)), (.ref o0)])) rfl rfl (hb hby d3_47)
    have K7 : Steps p.tables e below _ (T6.setTop (mkF m 50 #[.val (.ref o0), .val (.int (0 : Int32))] [])) := K5.trans (st6 _ (Steps.refl _))
    have Fw6 : Fld Z h6 o0 "com/example/futures_from_states/futuresfromstates/model/StateSet" "size" "I" (.int (0 : Int32)) := F_size_o0.same W6
    have N6 := Fr.snoc X6 N0 g_o0
    obtain ⟨fs, hr, hrun, hended, hW, hsame⟩ := X6.leave (v := none) (fun _ => rfl)
    have K_134 : Keep h0 h6 [o0, ba] := (Kp0.wr W6 (Or.inl (List.mem_of_getElem? (i := 0) rfl)))
    have E_135 : Exa Z h6 o0 "com/example/futures_from_states/futuresfromstates/model/StateSet" := (E_o0.wr W6)
    have F_136 : Fld Z h6 o0 "com/example/futures_from_states/futuresfromstates/model/StateSet" "bits" "[J" (.ref ba) := (F_bits_o0.other W6 (Or.inr (slot_ne (Or.inl (hw _ (List.mem_of_getElem? (i := 12) rfl))) (Or.inl (hw _ (List.mem_of_getElem? (i := 22) rfl))) (by decide) (t := (.array .long)) (t' := .int) (by decide) (by decide))))
    have F_137 : Fld Z h6 o0 "com/example/futures_from_states/futuresfromstates/model/StateSet" "members" "[I" (.ref ma) := (F_members_o0.other W6 (Or.inr (slot_ne (Or.inl (hw _ (List.mem_of_getElem? (i := 15) rfl))) (Or.inl (hw _ (List.mem_of_getElem? (i := 22) rfl))) (by decide) (t := (.array .int)) (t' := .int) (by decide) (by decide))))
    have V_138 : Arv Z h6 ba kb .long z vs (.long (0 : Int64)) := (V_ba.other W6 (Ne.symm ne_o0_ba))
    refine ⟨_, _, K7.trans (X6.returnOut hx Bd.returns (hb hby d3_50) hr), hrun, hended, _, _, rfl, ?_, ⟨_, rfl⟩, hW, hsame.mono (by decide) (by first | decide | omega)⟩
    show Q_rm3 Z o0 ba ma kb km z vs vm n S h0 n0 _ T6.heap _
    rw [e6]
    exact ⟨vs, rfl, N6, K_134, E_135, F_136, F_137, Fw6, V_138, (own_clr hI hk)⟩
  · have hk := own_k1 hI hn
    rw [hn] at F_size_o0
    have K8 : Steps p.tables e below _ (s₁.setTop (mkF m 4 #[.val (.ref o0), .val (.int (0 : Int32))] [(.ref o0), (.int (0 : Int32))])) := K1.trans (by
      refine XS.iloadN X0.here hx rfl (hb hby d3_2) rfl ?_
      refine XS.aloadN X0.here hx rfl (hb hby d3_3) rfl rfl ?_
      exact Steps.refl _)
    obtain ⟨T9, X9, e9, st9⟩ := getF X0 hx hZ hown (host := "") (Or.inl (hw _ (List.mem_of_getElem? (i := 21) rfl))) Via.refl e0 F_size_o0 (g := (mkF m 4 #[.val (.ref o0), .val (.int (0 : Int32))] [(.ref o0), (.int (0 : Int32))])) rfl rfl (hb hby d3_4)
    have K10 : Steps p.tables e below _ (T9.setTop (mkF m 7 #[.val (.ref o0), .val (.int (0 : Int32))] [(.int (1 : Int32)), (.int (0 : Int32))])) := K8.trans (st9 _ (Steps.refl _))
    have K11 : Steps p.tables e below _ (T9.setTop (mkF m 11 #[.val (.ref o0), .val (.int (0 : Int32))] [(.ref o0)])) := K10.trans (by
      refine XS.icmpNo X9.here hx rfl (hb hby d3_7) rfl (tlt (by decide : (0 : Int32) < (1 : Int32))).2.1 ?_
      refine XS.aloadN X9.here hx rfl (hb hby d3_10) rfl rfl ?_
      exact Steps.refl _)
    obtain ⟨T12, X12, e12, st12⟩ := getF X9 hx hZ hown (host := "") (Or.inl (hw _ (List.mem_of_getElem? (i := 11) rfl))) Via.refl e9 F_bits_o0 (g := (mkF m 11 #[.val (.ref o0), .val (.int (0 : Int32))] [(.ref o0)])) rfl rfl (hb hby d3_11)
    have K13 : Steps p.tables e below _ (T12.setTop (mkF m 14 #[.val (.ref o0), .val (.int (0 : Int32))] [(.ref ba)])) := K11.trans (st12 _ (Steps.refl _))
    have K14 : Steps p.tables e below _ (T12.setTop (mkF m 15 #[.val (.ref o0), .val (.int (0 : Int32))] [(.ref o0), (.ref ba)])) := K13.trans (by
      refine XS.aloadN X12.here hx rfl (hb hby d3_14) rfl rfl ?_
      exact Steps.refl _)
    obtain ⟨T15, X15, e15, st15⟩ := getF X12 hx hZ hown (host := "") (Or.inl (hw _ (List.mem_of_getElem? (i := 14) rfl))) Via.refl e12 F_members_o0 (g := (mkF m 15 #[.val (.ref o0), .val (.int (0 : Int32))] [(.ref o0), (.ref ba)])) rfl rfl (hb hby d3_15)
    have K16 : Steps p.tables e below _ (T15.setTop (mkF m 18 #[.val (.ref o0), .val (.int (0 : Int32))] [(.ref ma), (.ref ba)])) := K14.trans (st15 _ (Steps.refl _))
    have K17 : Steps p.tables e below _ (T15.setTop (mkF m 27 #[.val (.ref o0), .val (.int (0 : Int32))] [(.ref o0), (.long (1 : Int64)), (.long (own_gl vs (((own_mem vm 0).toUInt32 >>> ((6 : Int32) &&& 31).toUInt32).toInt32).toNatClampNeg)), (.int (((own_mem vm 0).toUInt32 >>> ((6 : Int32) &&& 31).toUInt32).toInt32)), (.ref ba)])) := K16.trans (by
      refine XS.iloadN X15.here hx rfl (hb hby d3_18) rfl ?_
      refine (own_ldI X15 hx hZ e15 V_ma (j := (0 : Int32)) ⟨by decide, by decide⟩ (own_mg hI hn 0 (by decide)) (g := (mkF m 19 #[.val (.ref o0), .val (.int (0 : Int32))] [(.int (0 : Int32)), (.ref ma), (.ref ba)])) rfl rfl (hb hby d3_19)).trans ?_
      refine XS.bipush X15.here hx rfl (hb hby d3_20) ?_
      refine XS.iushr X15.here hx rfl (hb hby d3_22) rfl ?_
      refine Jvm.Free.XT.dup2 X15.here hx rfl (hb hby d3_23) rfl rfl rfl ?_
      show Steps p.tables e below (T15.setTop (mkF m 24 #[.val (.ref o0), .val (.int (0 : Int32))] [(.int (((own_mem vm 0).toUInt32 >>> ((6 : Int32) &&& 31).toUInt32).toInt32)), (.ref ba), (.int (((own_mem vm 0).toUInt32 >>> ((6 : Int32) &&& 31).toUInt32).toInt32)), (.ref ba)])) _
      refine (own_ldJ X15 hx hZ e15 V_ba (j := (((own_mem vm 0).toUInt32 >>> ((6 : Int32) &&& 31).toUInt32).toInt32)) (own_mw hk.2.1) (hk.1.2.1 _) (g := (mkF m 24 #[.val (.ref o0), .val (.int (0 : Int32))] [(.int (((own_mem vm 0).toUInt32 >>> ((6 : Int32) &&& 31).toUInt32).toInt32)), (.ref ba), (.int (((own_mem vm 0).toUInt32 >>> ((6 : Int32) &&& 31).toUInt32).toInt32)), (.ref ba)])) rfl rfl (hb hby d3_24)).trans ?_
      refine XS.lconst X15.here hx rfl (hb hby d3_25) ?_
      refine XS.aloadN X15.here hx rfl (hb hby d3_26) rfl rfl ?_
      exact Steps.refl _)
    obtain ⟨T18, X18, e18, st18⟩ := getF X15 hx hZ hown (host := "") (Or.inl (hw _ (List.mem_of_getElem? (i := 14) rfl))) Via.refl e15 F_members_o0 (g := (mkF m 27 #[.val (.ref o0), .val (.int (0 : Int32))] [(.ref o0), (.long (1 : Int64)), (.long (own_gl vs (((own_mem vm 0).toUInt32 >>> ((6 : Int32) &&& 31).toUInt32).toInt32).toNatClampNeg)), (.int (((own_mem vm 0).toUInt32 >>> ((6 : Int32) &&& 31).toUInt32).toInt32)), (.ref ba)])) rfl rfl (hb hby d3_27)
    have K19 : Steps p.tables e below _ (T18.setTop (mkF m 30 #[.val (.ref o0), .val (.int (0 : Int32))] [(.ref ma), (.long (1 : Int64)), (.long (own_gl vs (((own_mem vm 0).toUInt32 >>> ((6 : Int32) &&& 31).toUInt32).toInt32).toNatClampNeg)), (.int (((own_mem vm 0).toUInt32 >>> ((6 : Int32) &&& 31).toUInt32).toInt32)), (.ref ba)])) := K17.trans (st18 _ (Steps.refl _))
    have K20 : Steps p.tables e below _ (T18.setTop (mkF m 38 #[.val (.ref o0), .val (.int (0 : Int32))] [(.long ((own_gl vs (((own_mem vm 0).toUInt32 >>> ((6 : Int32) &&& 31).toUInt32).toInt32).toNatClampNeg) &&& (((1 : Int64) <<< ((own_mem vm 0) &&& 0x3f).toInt64) ^^^ (-1 : Int64)))), (.int (((own_mem vm 0).toUInt32 >>> ((6 : Int32) &&& 31).toUInt32).toInt32)), (.ref ba)])) := K19.trans (by
      refine XS.iloadN X18.here hx rfl (hb hby d3_30) rfl ?_
      refine (own_ldI X18 hx hZ e18 V_ma (j := (0 : Int32)) ⟨by decide, by decide⟩ (own_mg hI hn 0 (by decide)) (g := (mkF m 31 #[.val (.ref o0), .val (.int (0 : Int32))] [(.int (0 : Int32)), (.ref ma), (.long (1 : Int64)), (.long (own_gl vs (((own_mem vm 0).toUInt32 >>> ((6 : Int32) &&& 31).toUInt32).toInt32).toNatClampNeg)), (.int (((own_mem vm 0).toUInt32 >>> ((6 : Int32) &&& 31).toUInt32).toInt32)), (.ref ba)])) rfl rfl (hb hby d3_31)).trans ?_
      refine XS.lshl X18.here hx rfl (hb hby d3_32) rfl ?_
      refine X18.ldc2Long hx hown (mvT hZ (hw _ (List.mem_of_getElem? (i := 33) rfl))) (g := (mkF m 33 #[.val (.ref o0), .val (.int (0 : Int32))] [(.long ((1 : Int64) <<< ((own_mem vm 0) &&& 0x3f).toInt64)), (.long (own_gl vs (((own_mem vm 0).toUInt32 >>> ((6 : Int32) &&& 31).toUInt32).toInt32).toNatClampNeg)), (.int (((own_mem vm 0).toUInt32 >>> ((6 : Int32) &&& 31).toUInt32).toInt32)), (.ref ba)])) rfl (hb hby d3_33) _ ?_
      refine XS.lxor X18.here hx rfl (hb hby d3_36) rfl ?_
      show Steps p.tables e below (T18.setTop (mkF m 37 #[.val (.ref o0), .val (.int (0 : Int32))] [(.long (((1 : Int64) <<< ((own_mem vm 0) &&& 0x3f).toInt64) ^^^ (-1 : Int64))), (.long (own_gl vs (((own_mem vm 0).toUInt32 >>> ((6 : Int32) &&& 31).toUInt32).toInt32).toNatClampNeg)), (.int (((own_mem vm 0).toUInt32 >>> ((6 : Int32) &&& 31).toUInt32).toInt32)), (.ref ba)])) _
      refine XS.land X18.here hx rfl (hb hby d3_37) rfl ?_
      exact Steps.refl _)
    obtain ⟨T21, h21, X21, e21, W21, V21, st21⟩ := own_stJ X18 hx hZ e18 V_ba (j := (((own_mem vm 0).toUInt32 >>> ((6 : Int32) &&& 31).toUInt32).toInt32)) (own_mw hk.2.1) (((own_mem vm 0).toUInt32 >>> ((6 : Int32) &&& 31).toUInt32).toInt32).toNatClampNeg rfl (own_ml hk.1 hk.2.1) (g := (mkF m 38 #[.val (.ref o0), .val (.int (0 : Int32))] [(.long ((own_gl vs (((own_mem vm 0).toUInt32 >>> ((6 : Int32) &&& 31).toUInt32).toInt32).toNatClampNeg) &&& (((1 : Int64) <<< ((own_mem vm 0) &&& 0x3f).toInt64) ^^^ (-1 : Int64)))), (.int (((own_mem vm 0).toUInt32 >>> ((6 : Int32) &&& 31).toUInt32).toInt32)), (.ref ba)])) rfl rfl (hb hby d3_38)
    have K22 : Steps p.tables e below _ (T21.setTop (mkF m 39 #[.val (.ref o0), .val (.int (0 : Int32))] [])) := K20.trans st21
    have Vw21 : Arv Z h21 ba kb .long z (vs.set (((own_mem vm 0).toUInt32 >>> ((6 : Int32) &&& 31).toUInt32).toInt32).toNatClampNeg (.long ((own_gl vs (((own_mem vm 0).toUInt32 >>> ((6 : Int32) &&& 31).toUInt32).toInt32).toNatClampNeg) &&& (((1 : Int64) <<< ((own_mem vm 0) &&& 0x3f).toInt64) ^^^ (-1 : Int64))))) (.long (0 : Int64)) := V21
    have N21 := Fr.snoc X21 N0 g_ba
    obtain ⟨Lg21, Xg21, Ng21⟩ : ∃ Lg, Stand p l e ({ frames := 0, cells := 0, slots := 0, locals := 0 } : Room) s m #[(.ref o0)] below meth c T21 Lg 0 0 ∧ Fr n0 Lg := ⟨_, X21, N21⟩
    obtain ⟨vsc1, hvsc1⟩ : ∃ z : List Value, (vs.set (((own_mem vm 0).toUInt32 >>> ((6 : Int32) &&& 31).toUInt32).toInt32).toNatClampNeg (.long ((own_gl vs (((own_mem vm 0).toUInt32 >>> ((6 : Int32) &&& 31).toUInt32).toInt32).toNatClampNeg) &&& (((1 : Int64) <<< ((own_mem vm 0) &&& 0x3f).toInt64) ^^^ (-1 : Int64))))) = z := ⟨_, rfl⟩
    rw [hvsc1] at Vw21
    have hC1 := own_clrcl hk.1 hk.2.2 hk.2.1 hvsc1
    have K23 : Steps p.tables e below _ (T21.setTop (mkF m 4 #[.val (.ref o0), .val (.int (1 : Int32))] [(.ref o0), (.int (1 : Int32))])) := K22.trans (by
      refine XS.iinc Xg21.here hx rfl (hb hby d3_39) rfl (l' := #[.val (.ref o0), .val (.int (1 : Int32))]) rfl ?_
      refine XS.goto Xg21.here hx rfl (pc0 := 42) (pc' := 2) rfl (hb hby d3_42) (by decide) (by decide) ?_
      refine XS.iloadN Xg21.here hx rfl (hb hby d3_2) rfl ?_
      refine XS.aloadN Xg21.here hx rfl (hb hby d3_3) rfl rfl ?_
      exact Steps.refl _)
    have F_24 : Fld Z h21 o0 "com/example/futures_from_states/futuresfromstates/model/StateSet" "size" "I" (.int (1 : Int32)) := (F_size_o0.other W21 (Or.inl ne_o0_ba))
    obtain ⟨T25, X25, e25, st25⟩ := getF Xg21 hx hZ hown (host := "") (Or.inl (hw _ (List.mem_of_getElem? (i := 21) rfl))) Via.refl e21 F_24 (g := (mkF m 4 #[.val (.ref o0), .val (.int (1 : Int32))] [(.ref o0), (.int (1 : Int32))])) rfl rfl (hb hby d3_4)
    have K26 : Steps p.tables e below _ (T25.setTop (mkF m 7 #[.val (.ref o0), .val (.int (1 : Int32))] [(.int (1 : Int32)), (.int (1 : Int32))])) := K23.trans (st25 _ (Steps.refl _))
    have K27 : Steps p.tables e below _ (T25.setTop (mkF m 47 #[.val (.ref o0), .val (.int (1 : Int32))] [(.int (0 : Int32)), (.ref o0)])) := K26.trans (by
      refine XS.icmpYes X25.here hx rfl (pc0 := 7) (pc' := 45) rfl (hb hby d3_7) rfl (flt (by decide : ¬ ((1 : Int32) < (1 : Int32)))).2.1 (by decide) (by decide) ?_
      refine XS.aloadN X25.here hx rfl (hb hby d3_45) rfl rfl ?_
      refine XS.iconst X25.here hx rfl (hb hby d3_46) ?_
      exact Steps.refl _)
    have E_28 : Exa Z h21 o0 "com/example/futures_from_states/futuresfromstates/model/StateSet" := (E_o0.wr W21)
    obtain ⟨T29, h29, X29, e29, W29, st29⟩ := putF X25 hx hZ hown (host := "") (Or.inl (hw _ (List.mem_of_getElem? (i := 21) rfl))) Via.refl e25 F_24 E_28 (Or.inl (hw _ (List.mem_of_getElem? (i := 22) rfl))) (hw _ (List.mem_of_getElem? (i := 2) rfl)) (ty := .int) (by decide) rfl rfl (g := (mkF m 47 #[.val (.ref o0), .val (.int (1 : Int32))] [(.int (0 : Int32)), (.ref o0)])) rfl rfl (hb hby d3_47)
    have K30 : Steps p.tables e below _ (T29.setTop (mkF m 50 #[.val (.ref o0), .val (.int (1 : Int32))] [])) := K27.trans (st29 _ (Steps.refl _))
    have Fw29 : Fld Z h29 o0 "com/example/futures_from_states/futuresfromstates/model/StateSet" "size" "I" (.int (0 : Int32)) := F_24.same W29
    have N29 := Fr.snoc X29 Ng21 g_o0
    obtain ⟨fs, hr, hrun, hended, hW, hsame⟩ := X29.leave (v := none) (fun _ => rfl)
    have K_139 : Keep h0 h29 [o0, ba] := ((Kp0.wr W21 (Or.inl (List.mem_of_getElem? (i := 1) rfl))).wr W29 (Or.inl (List.mem_of_getElem? (i := 0) rfl)))
    have E_140 : Exa Z h29 o0 "com/example/futures_from_states/futuresfromstates/model/StateSet" := (E_28.wr W29)
    have F_141 : Fld Z h29 o0 "com/example/futures_from_states/futuresfromstates/model/StateSet" "bits" "[J" (.ref ba) := ((F_bits_o0.other W21 (Or.inl ne_o0_ba)).other W29 (Or.inr (slot_ne (Or.inl (hw _ (List.mem_of_getElem? (i := 12) rfl))) (Or.inl (hw _ (List.mem_of_getElem? (i := 22) rfl))) (by decide) (t := (.array .long)) (t' := .int) (by decide) (by decide))))
    have F_142 : Fld Z h29 o0 "com/example/futures_from_states/futuresfromstates/model/StateSet" "members" "[I" (.ref ma) := ((F_members_o0.other W21 (Or.inl ne_o0_ba)).other W29 (Or.inr (slot_ne (Or.inl (hw _ (List.mem_of_getElem? (i := 15) rfl))) (Or.inl (hw _ (List.mem_of_getElem? (i := 22) rfl))) (by decide) (t := (.array .int)) (t' := .int) (by decide) (by decide))))
    have V_143 : Arv Z h29 ba kb .long z vsc1 (.long (0 : Int64)) := (Vw21.other W29 (Ne.symm ne_o0_ba))
    refine ⟨_, _, K30.trans (X29.returnOut hx Bd.returns (hb hby d3_50) hr), hrun, hended, _, _, rfl, ?_, ⟨_, rfl⟩, hW, hsame.mono (by decide) (by first | decide | omega)⟩
    show Q_rm3 Z o0 ba ma kb km z vs vm n S h0 n0 _ T29.heap _
    rw [e29]
    exact ⟨vsc1, rfl, N29, K_139, E_140, F_141, F_142, Fw29, V_143, (own_clr hI hC1)⟩
  · have hk := own_k2 hI hn
    rw [hn] at F_size_o0
    have K31 : Steps p.tables e below _ (s₁.setTop (mkF m 4 #[.val (.ref o0), .val (.int (0 : Int32))] [(.ref o0), (.int (0 : Int32))])) := K1.trans (by
      refine XS.iloadN X0.here hx rfl (hb hby d3_2) rfl ?_
      refine XS.aloadN X0.here hx rfl (hb hby d3_3) rfl rfl ?_
      exact Steps.refl _)
    obtain ⟨T32, X32, e32, st32⟩ := getF X0 hx hZ hown (host := "") (Or.inl (hw _ (List.mem_of_getElem? (i := 21) rfl))) Via.refl e0 F_size_o0 (g := (mkF m 4 #[.val (.ref o0), .val (.int (0 : Int32))] [(.ref o0), (.int (0 : Int32))])) rfl rfl (hb hby d3_4)
    have K33 : Steps p.tables e below _ (T32.setTop (mkF m 7 #[.val (.ref o0), .val (.int (0 : Int32))] [(.int (2 : Int32)), (.int (0 : Int32))])) := K31.trans (st32 _ (Steps.refl _))
    have K34 : Steps p.tables e below _ (T32.setTop (mkF m 11 #[.val (.ref o0), .val (.int (0 : Int32))] [(.ref o0)])) := K33.trans (by
      refine XS.icmpNo X32.here hx rfl (hb hby d3_7) rfl (tlt (by decide : (0 : Int32) < (2 : Int32))).2.1 ?_
      refine XS.aloadN X32.here hx rfl (hb hby d3_10) rfl rfl ?_
      exact Steps.refl _)
    obtain ⟨T35, X35, e35, st35⟩ := getF X32 hx hZ hown (host := "") (Or.inl (hw _ (List.mem_of_getElem? (i := 11) rfl))) Via.refl e32 F_bits_o0 (g := (mkF m 11 #[.val (.ref o0), .val (.int (0 : Int32))] [(.ref o0)])) rfl rfl (hb hby d3_11)
    have K36 : Steps p.tables e below _ (T35.setTop (mkF m 14 #[.val (.ref o0), .val (.int (0 : Int32))] [(.ref ba)])) := K34.trans (st35 _ (Steps.refl _))
    have K37 : Steps p.tables e below _ (T35.setTop (mkF m 15 #[.val (.ref o0), .val (.int (0 : Int32))] [(.ref o0), (.ref ba)])) := K36.trans (by
      refine XS.aloadN X35.here hx rfl (hb hby d3_14) rfl rfl ?_
      exact Steps.refl _)
    obtain ⟨T38, X38, e38, st38⟩ := getF X35 hx hZ hown (host := "") (Or.inl (hw _ (List.mem_of_getElem? (i := 14) rfl))) Via.refl e35 F_members_o0 (g := (mkF m 15 #[.val (.ref o0), .val (.int (0 : Int32))] [(.ref o0), (.ref ba)])) rfl rfl (hb hby d3_15)
    have K39 : Steps p.tables e below _ (T38.setTop (mkF m 18 #[.val (.ref o0), .val (.int (0 : Int32))] [(.ref ma), (.ref ba)])) := K37.trans (st38 _ (Steps.refl _))
    have K40 : Steps p.tables e below _ (T38.setTop (mkF m 27 #[.val (.ref o0), .val (.int (0 : Int32))] [(.ref o0), (.long (1 : Int64)), (.long (own_gl vs (((own_mem vm 0).toUInt32 >>> ((6 : Int32) &&& 31).toUInt32).toInt32).toNatClampNeg)), (.int (((own_mem vm 0).toUInt32 >>> ((6 : Int32) &&& 31).toUInt32).toInt32)), (.ref ba)])) := K39.trans (by
      refine XS.iloadN X38.here hx rfl (hb hby d3_18) rfl ?_
      refine (own_ldI X38 hx hZ e38 V_ma (j := (0 : Int32)) ⟨by decide, by decide⟩ (own_mg hI hn 0 (by decide)) (g := (mkF m 19 #[.val (.ref o0), .val (.int (0 : Int32))] [(.int (0 : Int32)), (.ref ma), (.ref ba)])) rfl rfl (hb hby d3_19)).trans ?_
      refine XS.bipush X38.here hx rfl (hb hby d3_20) ?_
      refine XS.iushr X38.here hx rfl (hb hby d3_22) rfl ?_
      refine Jvm.Free.XT.dup2 X38.here hx rfl (hb hby d3_23) rfl rfl rfl ?_
      show Steps p.tables e below (T38.setTop (mkF m 24 #[.val (.ref o0), .val (.int (0 : Int32))] [(.int (((own_mem vm 0).toUInt32 >>> ((6 : Int32) &&& 31).toUInt32).toInt32)), (.ref ba), (.int (((own_mem vm 0).toUInt32 >>> ((6 : Int32) &&& 31).toUInt32).toInt32)), (.ref ba)])) _
      refine (own_ldJ X38 hx hZ e38 V_ba (j := (((own_mem vm 0).toUInt32 >>> ((6 : Int32) &&& 31).toUInt32).toInt32)) (own_mw hk.2.1) (hk.1.2.1 _) (g := (mkF m 24 #[.val (.ref o0), .val (.int (0 : Int32))] [(.int (((own_mem vm 0).toUInt32 >>> ((6 : Int32) &&& 31).toUInt32).toInt32)), (.ref ba), (.int (((own_mem vm 0).toUInt32 >>> ((6 : Int32) &&& 31).toUInt32).toInt32)), (.ref ba)])) rfl rfl (hb hby d3_24)).trans ?_
      refine XS.lconst X38.here hx rfl (hb hby d3_25) ?_
      refine XS.aloadN X38.here hx rfl (hb hby d3_26) rfl rfl ?_
      exact Steps.refl _)
    obtain ⟨T41, X41, e41, st41⟩ := getF X38 hx hZ hown (host := "") (Or.inl (hw _ (List.mem_of_getElem? (i := 14) rfl))) Via.refl e38 F_members_o0 (g := (mkF m 27 #[.val (.ref o0), .val (.int (0 : Int32))] [(.ref o0), (.long (1 : Int64)), (.long (own_gl vs (((own_mem vm 0).toUInt32 >>> ((6 : Int32) &&& 31).toUInt32).toInt32).toNatClampNeg)), (.int (((own_mem vm 0).toUInt32 >>> ((6 : Int32) &&& 31).toUInt32).toInt32)), (.ref ba)])) rfl rfl (hb hby d3_27)
    have K42 : Steps p.tables e below _ (T41.setTop (mkF m 30 #[.val (.ref o0), .val (.int (0 : Int32))] [(.ref ma), (.long (1 : Int64)), (.long (own_gl vs (((own_mem vm 0).toUInt32 >>> ((6 : Int32) &&& 31).toUInt32).toInt32).toNatClampNeg)), (.int (((own_mem vm 0).toUInt32 >>> ((6 : Int32) &&& 31).toUInt32).toInt32)), (.ref ba)])) := K40.trans (st41 _ (Steps.refl _))
    have K43 : Steps p.tables e below _ (T41.setTop (mkF m 38 #[.val (.ref o0), .val (.int (0 : Int32))] [(.long ((own_gl vs (((own_mem vm 0).toUInt32 >>> ((6 : Int32) &&& 31).toUInt32).toInt32).toNatClampNeg) &&& (((1 : Int64) <<< ((own_mem vm 0) &&& 0x3f).toInt64) ^^^ (-1 : Int64)))), (.int (((own_mem vm 0).toUInt32 >>> ((6 : Int32) &&& 31).toUInt32).toInt32)), (.ref ba)])) := K42.trans (by
      refine XS.iloadN X41.here hx rfl (hb hby d3_30) rfl ?_
      refine (own_ldI X41 hx hZ e41 V_ma (j := (0 : Int32)) ⟨by decide, by decide⟩ (own_mg hI hn 0 (by decide)) (g := (mkF m 31 #[.val (.ref o0), .val (.int (0 : Int32))] [(.int (0 : Int32)), (.ref ma), (.long (1 : Int64)), (.long (own_gl vs (((own_mem vm 0).toUInt32 >>> ((6 : Int32) &&& 31).toUInt32).toInt32).toNatClampNeg)), (.int (((own_mem vm 0).toUInt32 >>> ((6 : Int32) &&& 31).toUInt32).toInt32)), (.ref ba)])) rfl rfl (hb hby d3_31)).trans ?_
      refine XS.lshl X41.here hx rfl (hb hby d3_32) rfl ?_
      refine X41.ldc2Long hx hown (mvT hZ (hw _ (List.mem_of_getElem? (i := 33) rfl))) (g := (mkF m 33 #[.val (.ref o0), .val (.int (0 : Int32))] [(.long ((1 : Int64) <<< ((own_mem vm 0) &&& 0x3f).toInt64)), (.long (own_gl vs (((own_mem vm 0).toUInt32 >>> ((6 : Int32) &&& 31).toUInt32).toInt32).toNatClampNeg)), (.int (((own_mem vm 0).toUInt32 >>> ((6 : Int32) &&& 31).toUInt32).toInt32)), (.ref ba)])) rfl (hb hby d3_33) _ ?_
      refine XS.lxor X41.here hx rfl (hb hby d3_36) rfl ?_
      show Steps p.tables e below (T41.setTop (mkF m 37 #[.val (.ref o0), .val (.int (0 : Int32))] [(.long (((1 : Int64) <<< ((own_mem vm 0) &&& 0x3f).toInt64) ^^^ (-1 : Int64))), (.long (own_gl vs (((own_mem vm 0).toUInt32 >>> ((6 : Int32) &&& 31).toUInt32).toInt32).toNatClampNeg)), (.int (((own_mem vm 0).toUInt32 >>> ((6 : Int32) &&& 31).toUInt32).toInt32)), (.ref ba)])) _
      refine XS.land X41.here hx rfl (hb hby d3_37) rfl ?_
      exact Steps.refl _)
    obtain ⟨T44, h44, X44, e44, W44, V44, st44⟩ := own_stJ X41 hx hZ e41 V_ba (j := (((own_mem vm 0).toUInt32 >>> ((6 : Int32) &&& 31).toUInt32).toInt32)) (own_mw hk.2.1) (((own_mem vm 0).toUInt32 >>> ((6 : Int32) &&& 31).toUInt32).toInt32).toNatClampNeg rfl (own_ml hk.1 hk.2.1) (g := (mkF m 38 #[.val (.ref o0), .val (.int (0 : Int32))] [(.long ((own_gl vs (((own_mem vm 0).toUInt32 >>> ((6 : Int32) &&& 31).toUInt32).toInt32).toNatClampNeg) &&& (((1 : Int64) <<< ((own_mem vm 0) &&& 0x3f).toInt64) ^^^ (-1 : Int64)))), (.int (((own_mem vm 0).toUInt32 >>> ((6 : Int32) &&& 31).toUInt32).toInt32)), (.ref ba)])) rfl rfl (hb hby d3_38)
    have K45 : Steps p.tables e below _ (T44.setTop (mkF m 39 #[.val (.ref o0), .val (.int (0 : Int32))] [])) := K43.trans st44
    have Vw44 : Arv Z h44 ba kb .long z (vs.set (((own_mem vm 0).toUInt32 >>> ((6 : Int32) &&& 31).toUInt32).toInt32).toNatClampNeg (.long ((own_gl vs (((own_mem vm 0).toUInt32 >>> ((6 : Int32) &&& 31).toUInt32).toInt32).toNatClampNeg) &&& (((1 : Int64) <<< ((own_mem vm 0) &&& 0x3f).toInt64) ^^^ (-1 : Int64))))) (.long (0 : Int64)) := V44
    have N44 := Fr.snoc X44 N0 g_ba
    obtain ⟨Lg44, Xg44, Ng44⟩ : ∃ Lg, Stand p l e ({ frames := 0, cells := 0, slots := 0, locals := 0 } : Room) s m #[(.ref o0)] below meth c T44 Lg 0 0 ∧ Fr n0 Lg := ⟨_, X44, N44⟩
    obtain ⟨vsc1, hvsc1⟩ : ∃ z : List Value, (vs.set (((own_mem vm 0).toUInt32 >>> ((6 : Int32) &&& 31).toUInt32).toInt32).toNatClampNeg (.long ((own_gl vs (((own_mem vm 0).toUInt32 >>> ((6 : Int32) &&& 31).toUInt32).toInt32).toNatClampNeg) &&& (((1 : Int64) <<< ((own_mem vm 0) &&& 0x3f).toInt64) ^^^ (-1 : Int64))))) = z := ⟨_, rfl⟩
    rw [hvsc1] at Vw44
    have hC1 := own_clrcl hk.1 hk.2.2.1 hk.2.1 hvsc1
    have K46 : Steps p.tables e below _ (T44.setTop (mkF m 4 #[.val (.ref o0), .val (.int (1 : Int32))] [(.ref o0), (.int (1 : Int32))])) := K45.trans (by
      refine XS.iinc Xg44.here hx rfl (hb hby d3_39) rfl (l' := #[.val (.ref o0), .val (.int (1 : Int32))]) rfl ?_
      refine XS.goto Xg44.here hx rfl (pc0 := 42) (pc' := 2) rfl (hb hby d3_42) (by decide) (by decide) ?_
      refine XS.iloadN Xg44.here hx rfl (hb hby d3_2) rfl ?_
      refine XS.aloadN Xg44.here hx rfl (hb hby d3_3) rfl rfl ?_
      exact Steps.refl _)
    have F_47 : Fld Z h44 o0 "com/example/futures_from_states/futuresfromstates/model/StateSet" "size" "I" (.int (2 : Int32)) := (F_size_o0.other W44 (Or.inl ne_o0_ba))
    obtain ⟨T48, X48, e48, st48⟩ := getF Xg44 hx hZ hown (host := "") (Or.inl (hw _ (List.mem_of_getElem? (i := 21) rfl))) Via.refl e44 F_47 (g := (mkF m 4 #[.val (.ref o0), .val (.int (1 : Int32))] [(.ref o0), (.int (1 : Int32))])) rfl rfl (hb hby d3_4)
    have K49 : Steps p.tables e below _ (T48.setTop (mkF m 7 #[.val (.ref o0), .val (.int (1 : Int32))] [(.int (2 : Int32)), (.int (1 : Int32))])) := K46.trans (st48 _ (Steps.refl _))
    have K50 : Steps p.tables e below _ (T48.setTop (mkF m 11 #[.val (.ref o0), .val (.int (1 : Int32))] [(.ref o0)])) := K49.trans (by
      refine XS.icmpNo X48.here hx rfl (hb hby d3_7) rfl (tlt (by decide : (1 : Int32) < (2 : Int32))).2.1 ?_
      refine XS.aloadN X48.here hx rfl (hb hby d3_10) rfl rfl ?_
      exact Steps.refl _)
    have F_51 : Fld Z h44 o0 "com/example/futures_from_states/futuresfromstates/model/StateSet" "bits" "[J" (.ref ba) := (F_bits_o0.other W44 (Or.inl ne_o0_ba))
    obtain ⟨T52, X52, e52, st52⟩ := getF X48 hx hZ hown (host := "") (Or.inl (hw _ (List.mem_of_getElem? (i := 11) rfl))) Via.refl e48 F_51 (g := (mkF m 11 #[.val (.ref o0), .val (.int (1 : Int32))] [(.ref o0)])) rfl rfl (hb hby d3_11)
    have K53 : Steps p.tables e below _ (T52.setTop (mkF m 14 #[.val (.ref o0), .val (.int (1 : Int32))] [(.ref ba)])) := K50.trans (st52 _ (Steps.refl _))
    have K54 : Steps p.tables e below _ (T52.setTop (mkF m 15 #[.val (.ref o0), .val (.int (1 : Int32))] [(.ref o0), (.ref ba)])) := K53.trans (by
      refine XS.aloadN X52.here hx rfl (hb hby d3_14) rfl rfl ?_
      exact Steps.refl _)
    have F_55 : Fld Z h44 o0 "com/example/futures_from_states/futuresfromstates/model/StateSet" "members" "[I" (.ref ma) := (F_members_o0.other W44 (Or.inl ne_o0_ba))
    obtain ⟨T56, X56, e56, st56⟩ := getF X52 hx hZ hown (host := "") (Or.inl (hw _ (List.mem_of_getElem? (i := 14) rfl))) Via.refl e52 F_55 (g := (mkF m 15 #[.val (.ref o0), .val (.int (1 : Int32))] [(.ref o0), (.ref ba)])) rfl rfl (hb hby d3_15)
    have K57 : Steps p.tables e below _ (T56.setTop (mkF m 18 #[.val (.ref o0), .val (.int (1 : Int32))] [(.ref ma), (.ref ba)])) := K54.trans (st56 _ (Steps.refl _))
    have V_58 : Arv Z h44 ma km .int (16 : Int32) vm (.int (0 : Int32)) := (V_ma.other W44 (Ne.symm ne_ba_ma))
    have K59 : Steps p.tables e below _ (T56.setTop (mkF m 27 #[.val (.ref o0), .val (.int (1 : Int32))] [(.ref o0), (.long (1 : Int64)), (.long (own_gl vsc1 (((own_mem vm 1).toUInt32 >>> ((6 : Int32) &&& 31).toUInt32).toInt32).toNatClampNeg)), (.int (((own_mem vm 1).toUInt32 >>> ((6 : Int32) &&& 31).toUInt32).toInt32)), (.ref ba)])) := K57.trans (by
      refine XS.iloadN X56.here hx rfl (hb hby d3_18) rfl ?_
      refine (own_ldI X56 hx hZ e56 V_58 (j := (1 : Int32)) ⟨by decide, by decide⟩ (own_mg hI hn 1 (by decide)) (g := (mkF m 19 #[.val (.ref o0), .val (.int (1 : Int32))] [(.int (1 : Int32)), (.ref ma), (.ref ba)])) rfl rfl (hb hby d3_19)).trans ?_
      refine XS.bipush X56.here hx rfl (hb hby d3_20) ?_
      refine XS.iushr X56.here hx rfl (hb hby d3_22) rfl ?_
      refine Jvm.Free.XT.dup2 X56.here hx rfl (hb hby d3_23) rfl rfl rfl ?_
      show Steps p.tables e below (T56.setTop (mkF m 24 #[.val (.ref o0), .val (.int (1 : Int32))] [(.int (((own_mem vm 1).toUInt32 >>> ((6 : Int32) &&& 31).toUInt32).toInt32)), (.ref ba), (.int (((own_mem vm 1).toUInt32 >>> ((6 : Int32) &&& 31).toUInt32).toInt32)), (.ref ba)])) _
      refine (own_ldJ X56 hx hZ e56 Vw44 (j := (((own_mem vm 1).toUInt32 >>> ((6 : Int32) &&& 31).toUInt32).toInt32)) (own_mw hk.2.2.2.1) (hC1.2.1 _) (g := (mkF m 24 #[.val (.ref o0), .val (.int (1 : Int32))] [(.int (((own_mem vm 1).toUInt32 >>> ((6 : Int32) &&& 31).toUInt32).toInt32)), (.ref ba), (.int (((own_mem vm 1).toUInt32 >>> ((6 : Int32) &&& 31).toUInt32).toInt32)), (.ref ba)])) rfl rfl (hb hby d3_24)).trans ?_
      refine XS.lconst X56.here hx rfl (hb hby d3_25) ?_
      refine XS.aloadN X56.here hx rfl (hb hby d3_26) rfl rfl ?_
      exact Steps.refl _)
    obtain ⟨T60, X60, e60, st60⟩ := getF X56 hx hZ hown (host := "") (Or.inl (hw _ (List.mem_of_getElem? (i := 14) rfl))) Via.refl e56 F_55 (g := (mkF m 27 #[.val (.ref o0), .val (.int (1 : Int32))] [(.ref o0), (.long (1 : Int64)), (.long (own_gl vsc1 (((own_mem vm 1).toUInt32 >>> ((6 : Int32) &&& 31).toUInt32).toInt32).toNatClampNeg)), (.int (((own_mem vm 1).toUInt32 >>> ((6 : Int32) &&& 31).toUInt32).toInt32)), (.ref ba)])) rfl rfl (hb hby d3_27)
    have K61 : Steps p.tables e below _ (T60.setTop (mkF m 30 #[.val (.ref o0), .val (.int (1 : Int32))] [(.ref ma), (.long (1 : Int64)), (.long (own_gl vsc1 (((own_mem vm 1).toUInt32 >>> ((6 : Int32) &&& 31).toUInt32).toInt32).toNatClampNeg)), (.int (((own_mem vm 1).toUInt32 >>> ((6 : Int32) &&& 31).toUInt32).toInt32)), (.ref ba)])) := K59.trans (st60 _ (Steps.refl _))
    have K62 : Steps p.tables e below _ (T60.setTop (mkF m 38 #[.val (.ref o0), .val (.int (1 : Int32))] [(.long ((own_gl vsc1 (((own_mem vm 1).toUInt32 >>> ((6 : Int32) &&& 31).toUInt32).toInt32).toNatClampNeg) &&& (((1 : Int64) <<< ((own_mem vm 1) &&& 0x3f).toInt64) ^^^ (-1 : Int64)))), (.int (((own_mem vm 1).toUInt32 >>> ((6 : Int32) &&& 31).toUInt32).toInt32)), (.ref ba)])) := K61.trans (by
      refine XS.iloadN X60.here hx rfl (hb hby d3_30) rfl ?_
      refine (own_ldI X60 hx hZ e60 V_58 (j := (1 : Int32)) ⟨by decide, by decide⟩ (own_mg hI hn 1 (by decide)) (g := (mkF m 31 #[.val (.ref o0), .val (.int (1 : Int32))] [(.int (1 : Int32)), (.ref ma), (.long (1 : Int64)), (.long (own_gl vsc1 (((own_mem vm 1).toUInt32 >>> ((6 : Int32) &&& 31).toUInt32).toInt32).toNatClampNeg)), (.int (((own_mem vm 1).toUInt32 >>> ((6 : Int32) &&& 31).toUInt32).toInt32)), (.ref ba)])) rfl rfl (hb hby d3_31)).trans ?_
      refine XS.lshl X60.here hx rfl (hb hby d3_32) rfl ?_
      refine X60.ldc2Long hx hown (mvT hZ (hw _ (List.mem_of_getElem? (i := 33) rfl))) (g := (mkF m 33 #[.val (.ref o0), .val (.int (1 : Int32))] [(.long ((1 : Int64) <<< ((own_mem vm 1) &&& 0x3f).toInt64)), (.long (own_gl vsc1 (((own_mem vm 1).toUInt32 >>> ((6 : Int32) &&& 31).toUInt32).toInt32).toNatClampNeg)), (.int (((own_mem vm 1).toUInt32 >>> ((6 : Int32) &&& 31).toUInt32).toInt32)), (.ref ba)])) rfl (hb hby d3_33) _ ?_
      refine XS.lxor X60.here hx rfl (hb hby d3_36) rfl ?_
      show Steps p.tables e below (T60.setTop (mkF m 37 #[.val (.ref o0), .val (.int (1 : Int32))] [(.long (((1 : Int64) <<< ((own_mem vm 1) &&& 0x3f).toInt64) ^^^ (-1 : Int64))), (.long (own_gl vsc1 (((own_mem vm 1).toUInt32 >>> ((6 : Int32) &&& 31).toUInt32).toInt32).toNatClampNeg)), (.int (((own_mem vm 1).toUInt32 >>> ((6 : Int32) &&& 31).toUInt32).toInt32)), (.ref ba)])) _
      refine XS.land X60.here hx rfl (hb hby d3_37) rfl ?_
      exact Steps.refl _)
    obtain ⟨T63, h63, X63, e63, W63, V63, st63⟩ := own_stJ X60 hx hZ e60 Vw44 (j := (((own_mem vm 1).toUInt32 >>> ((6 : Int32) &&& 31).toUInt32).toInt32)) (own_mw hk.2.2.2.1) (((own_mem vm 1).toUInt32 >>> ((6 : Int32) &&& 31).toUInt32).toInt32).toNatClampNeg rfl (own_ml hC1 hk.2.2.2.1) (g := (mkF m 38 #[.val (.ref o0), .val (.int (1 : Int32))] [(.long ((own_gl vsc1 (((own_mem vm 1).toUInt32 >>> ((6 : Int32) &&& 31).toUInt32).toInt32).toNatClampNeg) &&& (((1 : Int64) <<< ((own_mem vm 1) &&& 0x3f).toInt64) ^^^ (-1 : Int64)))), (.int (((own_mem vm 1).toUInt32 >>> ((6 : Int32) &&& 31).toUInt32).toInt32)), (.ref ba)])) rfl rfl (hb hby d3_38)
    have K64 : Steps p.tables e below _ (T63.setTop (mkF m 39 #[.val (.ref o0), .val (.int (1 : Int32))] [])) := K62.trans st63
    have Vw63 : Arv Z h63 ba kb .long z (vsc1.set (((own_mem vm 1).toUInt32 >>> ((6 : Int32) &&& 31).toUInt32).toInt32).toNatClampNeg (.long ((own_gl vsc1 (((own_mem vm 1).toUInt32 >>> ((6 : Int32) &&& 31).toUInt32).toInt32).toNatClampNeg) &&& (((1 : Int64) <<< ((own_mem vm 1) &&& 0x3f).toInt64) ^^^ (-1 : Int64))))) (.long (0 : Int64)) := V63
    have N63 := Fr.snoc X63 Ng44 g_ba
    obtain ⟨Lg63, Xg63, Ng63⟩ : ∃ Lg, Stand p l e ({ frames := 0, cells := 0, slots := 0, locals := 0 } : Room) s m #[(.ref o0)] below meth c T63 Lg 0 0 ∧ Fr n0 Lg := ⟨_, X63, N63⟩
    obtain ⟨vsc2, hvsc2⟩ : ∃ z : List Value, (vsc1.set (((own_mem vm 1).toUInt32 >>> ((6 : Int32) &&& 31).toUInt32).toInt32).toNatClampNeg (.long ((own_gl vsc1 (((own_mem vm 1).toUInt32 >>> ((6 : Int32) &&& 31).toUInt32).toInt32).toNatClampNeg) &&& (((1 : Int64) <<< ((own_mem vm 1) &&& 0x3f).toInt64) ^^^ (-1 : Int64))))) = z := ⟨_, rfl⟩
    rw [hvsc2] at Vw63
    have hC2 := own_clrcl hC1 hk.2.2.2.2 hk.2.2.2.1 hvsc2
    have K65 : Steps p.tables e below _ (T63.setTop (mkF m 4 #[.val (.ref o0), .val (.int (2 : Int32))] [(.ref o0), (.int (2 : Int32))])) := K64.trans (by
      refine XS.iinc Xg63.here hx rfl (hb hby d3_39) rfl (l' := #[.val (.ref o0), .val (.int (2 : Int32))]) rfl ?_
      refine XS.goto Xg63.here hx rfl (pc0 := 42) (pc' := 2) rfl (hb hby d3_42) (by decide) (by decide) ?_
      refine XS.iloadN Xg63.here hx rfl (hb hby d3_2) rfl ?_
      refine XS.aloadN Xg63.here hx rfl (hb hby d3_3) rfl rfl ?_
      exact Steps.refl _)
    have F_66 : Fld Z h63 o0 "com/example/futures_from_states/futuresfromstates/model/StateSet" "size" "I" (.int (2 : Int32)) := (F_47.other W63 (Or.inl ne_o0_ba))
    obtain ⟨T67, X67, e67, st67⟩ := getF Xg63 hx hZ hown (host := "") (Or.inl (hw _ (List.mem_of_getElem? (i := 21) rfl))) Via.refl e63 F_66 (g := (mkF m 4 #[.val (.ref o0), .val (.int (2 : Int32))] [(.ref o0), (.int (2 : Int32))])) rfl rfl (hb hby d3_4)
    have K68 : Steps p.tables e below _ (T67.setTop (mkF m 7 #[.val (.ref o0), .val (.int (2 : Int32))] [(.int (2 : Int32)), (.int (2 : Int32))])) := K65.trans (st67 _ (Steps.refl _))
    have K69 : Steps p.tables e below _ (T67.setTop (mkF m 47 #[.val (.ref o0), .val (.int (2 : Int32))] [(.int (0 : Int32)), (.ref o0)])) := K68.trans (by
      refine XS.icmpYes X67.here hx rfl (pc0 := 7) (pc' := 45) rfl (hb hby d3_7) rfl (flt (by decide : ¬ ((2 : Int32) < (2 : Int32)))).2.1 (by decide) (by decide) ?_
      refine XS.aloadN X67.here hx rfl (hb hby d3_45) rfl rfl ?_
      refine XS.iconst X67.here hx rfl (hb hby d3_46) ?_
      exact Steps.refl _)
    have E_70 : Exa Z h63 o0 "com/example/futures_from_states/futuresfromstates/model/StateSet" := ((E_o0.wr W44).wr W63)
    obtain ⟨T71, h71, X71, e71, W71, st71⟩ := putF X67 hx hZ hown (host := "") (Or.inl (hw _ (List.mem_of_getElem? (i := 21) rfl))) Via.refl e67 F_66 E_70 (Or.inl (hw _ (List.mem_of_getElem? (i := 22) rfl))) (hw _ (List.mem_of_getElem? (i := 2) rfl)) (ty := .int) (by decide) rfl rfl (g := (mkF m 47 #[.val (.ref o0), .val (.int (2 : Int32))] [(.int (0 : Int32)), (.ref o0)])) rfl rfl (hb hby d3_47)
    have K72 : Steps p.tables e below _ (T71.setTop (mkF m 50 #[.val (.ref o0), .val (.int (2 : Int32))] [])) := K69.trans (st71 _ (Steps.refl _))
    have Fw71 : Fld Z h71 o0 "com/example/futures_from_states/futuresfromstates/model/StateSet" "size" "I" (.int (0 : Int32)) := F_66.same W71
    have N71 := Fr.snoc X71 Ng63 g_o0
    obtain ⟨fs, hr, hrun, hended, hW, hsame⟩ := X71.leave (v := none) (fun _ => rfl)
    have K_144 : Keep h0 h71 [o0, ba] := (((Kp0.wr W44 (Or.inl (List.mem_of_getElem? (i := 1) rfl))).wr W63 (Or.inl (List.mem_of_getElem? (i := 1) rfl))).wr W71 (Or.inl (List.mem_of_getElem? (i := 0) rfl)))
    have E_145 : Exa Z h71 o0 "com/example/futures_from_states/futuresfromstates/model/StateSet" := (E_70.wr W71)
    have F_146 : Fld Z h71 o0 "com/example/futures_from_states/futuresfromstates/model/StateSet" "bits" "[J" (.ref ba) := ((F_51.other W63 (Or.inl ne_o0_ba)).other W71 (Or.inr (slot_ne (Or.inl (hw _ (List.mem_of_getElem? (i := 12) rfl))) (Or.inl (hw _ (List.mem_of_getElem? (i := 22) rfl))) (by decide) (t := (.array .long)) (t' := .int) (by decide) (by decide))))
    have F_147 : Fld Z h71 o0 "com/example/futures_from_states/futuresfromstates/model/StateSet" "members" "[I" (.ref ma) := ((F_55.other W63 (Or.inl ne_o0_ba)).other W71 (Or.inr (slot_ne (Or.inl (hw _ (List.mem_of_getElem? (i := 15) rfl))) (Or.inl (hw _ (List.mem_of_getElem? (i := 22) rfl))) (by decide) (t := (.array .int)) (t' := .int) (by decide) (by decide))))
    have V_148 : Arv Z h71 ba kb .long z vsc2 (.long (0 : Int64)) := (Vw63.other W71 (Ne.symm ne_o0_ba))
    refine ⟨_, _, K72.trans (X71.returnOut hx Bd.returns (hb hby d3_50) hr), hrun, hended, _, _, rfl, ?_, ⟨_, rfl⟩, hW, hsame.mono (by decide) (by first | decide | omega)⟩
    show Q_rm3 Z o0 ba ma kb km z vs vm n S h0 n0 _ T71.heap _
    rw [e71]
    exact ⟨vsc2, rfl, N71, K_144, E_145, F_146, F_147, Fw71, V_148, (own_clr hI hC2)⟩
  · have hk := own_k3 hI hn
    rw [hn] at F_size_o0
    have K73 : Steps p.tables e below _ (s₁.setTop (mkF m 4 #[.val (.ref o0), .val (.int (0 : Int32))] [(.ref o0), (.int (0 : Int32))])) := K1.trans (by
      refine XS.iloadN X0.here hx rfl (hb hby d3_2) rfl ?_
      refine XS.aloadN X0.here hx rfl (hb hby d3_3) rfl rfl ?_
      exact Steps.refl _)
    obtain ⟨T74, X74, e74, st74⟩ := getF X0 hx hZ hown (host := "") (Or.inl (hw _ (List.mem_of_getElem? (i := 21) rfl))) Via.refl e0 F_size_o0 (g := (mkF m 4 #[.val (.ref o0), .val (.int (0 : Int32))] [(.ref o0), (.int (0 : Int32))])) rfl rfl (hb hby d3_4)
    have K75 : Steps p.tables e below _ (T74.setTop (mkF m 7 #[.val (.ref o0), .val (.int (0 : Int32))] [(.int (3 : Int32)), (.int (0 : Int32))])) := K73.trans (st74 _ (Steps.refl _))
    have K76 : Steps p.tables e below _ (T74.setTop (mkF m 11 #[.val (.ref o0), .val (.int (0 : Int32))] [(.ref o0)])) := K75.trans (by
      refine XS.icmpNo X74.here hx rfl (hb hby d3_7) rfl (tlt (by decide : (0 : Int32) < (3 : Int32))).2.1 ?_
      refine XS.aloadN X74.here hx rfl (hb hby d3_10) rfl rfl ?_
      exact Steps.refl _)
    obtain ⟨T77, X77, e77, st77⟩ := getF X74 hx hZ hown (host := "") (Or.inl (hw _ (List.mem_of_getElem? (i := 11) rfl))) Via.refl e74 F_bits_o0 (g := (mkF m 11 #[.val (.ref o0), .val (.int (0 : Int32))] [(.ref o0)])) rfl rfl (hb hby d3_11)
    have K78 : Steps p.tables e below _ (T77.setTop (mkF m 14 #[.val (.ref o0), .val (.int (0 : Int32))] [(.ref ba)])) := K76.trans (st77 _ (Steps.refl _))
    have K79 : Steps p.tables e below _ (T77.setTop (mkF m 15 #[.val (.ref o0), .val (.int (0 : Int32))] [(.ref o0), (.ref ba)])) := K78.trans (by
      refine XS.aloadN X77.here hx rfl (hb hby d3_14) rfl rfl ?_
      exact Steps.refl _)
    obtain ⟨T80, X80, e80, st80⟩ := getF X77 hx hZ hown (host := "") (Or.inl (hw _ (List.mem_of_getElem? (i := 14) rfl))) Via.refl e77 F_members_o0 (g := (mkF m 15 #[.val (.ref o0), .val (.int (0 : Int32))] [(.ref o0), (.ref ba)])) rfl rfl (hb hby d3_15)
    have K81 : Steps p.tables e below _ (T80.setTop (mkF m 18 #[.val (.ref o0), .val (.int (0 : Int32))] [(.ref ma), (.ref ba)])) := K79.trans (st80 _ (Steps.refl _))
    have K82 : Steps p.tables e below _ (T80.setTop (mkF m 27 #[.val (.ref o0), .val (.int (0 : Int32))] [(.ref o0), (.long (1 : Int64)), (.long (own_gl vs (((own_mem vm 0).toUInt32 >>> ((6 : Int32) &&& 31).toUInt32).toInt32).toNatClampNeg)), (.int (((own_mem vm 0).toUInt32 >>> ((6 : Int32) &&& 31).toUInt32).toInt32)), (.ref ba)])) := K81.trans (by
      refine XS.iloadN X80.here hx rfl (hb hby d3_18) rfl ?_
      refine (own_ldI X80 hx hZ e80 V_ma (j := (0 : Int32)) ⟨by decide, by decide⟩ (own_mg hI hn 0 (by decide)) (g := (mkF m 19 #[.val (.ref o0), .val (.int (0 : Int32))] [(.int (0 : Int32)), (.ref ma), (.ref ba)])) rfl rfl (hb hby d3_19)).trans ?_
      refine XS.bipush X80.here hx rfl (hb hby d3_20) ?_
      refine XS.iushr X80.here hx rfl (hb hby d3_22) rfl ?_
      refine Jvm.Free.XT.dup2 X80.here hx rfl (hb hby d3_23) rfl rfl rfl ?_
      show Steps p.tables e below (T80.setTop (mkF m 24 #[.val (.ref o0), .val (.int (0 : Int32))] [(.int (((own_mem vm 0).toUInt32 >>> ((6 : Int32) &&& 31).toUInt32).toInt32)), (.ref ba), (.int (((own_mem vm 0).toUInt32 >>> ((6 : Int32) &&& 31).toUInt32).toInt32)), (.ref ba)])) _
      refine (own_ldJ X80 hx hZ e80 V_ba (j := (((own_mem vm 0).toUInt32 >>> ((6 : Int32) &&& 31).toUInt32).toInt32)) (own_mw hk.2.1) (hk.1.2.1 _) (g := (mkF m 24 #[.val (.ref o0), .val (.int (0 : Int32))] [(.int (((own_mem vm 0).toUInt32 >>> ((6 : Int32) &&& 31).toUInt32).toInt32)), (.ref ba), (.int (((own_mem vm 0).toUInt32 >>> ((6 : Int32) &&& 31).toUInt32).toInt32)), (.ref ba)])) rfl rfl (hb hby d3_24)).trans ?_
      refine XS.lconst X80.here hx rfl (hb hby d3_25) ?_
      refine XS.aloadN X80.here hx rfl (hb hby d3_26) rfl rfl ?_
      exact Steps.refl _)
    obtain ⟨T83, X83, e83, st83⟩ := getF X80 hx hZ hown (host := "") (Or.inl (hw _ (List.mem_of_getElem? (i := 14) rfl))) Via.refl e80 F_members_o0 (g := (mkF m 27 #[.val (.ref o0), .val (.int (0 : Int32))] [(.ref o0), (.long (1 : Int64)), (.long (own_gl vs (((own_mem vm 0).toUInt32 >>> ((6 : Int32) &&& 31).toUInt32).toInt32).toNatClampNeg)), (.int (((own_mem vm 0).toUInt32 >>> ((6 : Int32) &&& 31).toUInt32).toInt32)), (.ref ba)])) rfl rfl (hb hby d3_27)
    have K84 : Steps p.tables e below _ (T83.setTop (mkF m 30 #[.val (.ref o0), .val (.int (0 : Int32))] [(.ref ma), (.long (1 : Int64)), (.long (own_gl vs (((own_mem vm 0).toUInt32 >>> ((6 : Int32) &&& 31).toUInt32).toInt32).toNatClampNeg)), (.int (((own_mem vm 0).toUInt32 >>> ((6 : Int32) &&& 31).toUInt32).toInt32)), (.ref ba)])) := K82.trans (st83 _ (Steps.refl _))
    have K85 : Steps p.tables e below _ (T83.setTop (mkF m 38 #[.val (.ref o0), .val (.int (0 : Int32))] [(.long ((own_gl vs (((own_mem vm 0).toUInt32 >>> ((6 : Int32) &&& 31).toUInt32).toInt32).toNatClampNeg) &&& (((1 : Int64) <<< ((own_mem vm 0) &&& 0x3f).toInt64) ^^^ (-1 : Int64)))), (.int (((own_mem vm 0).toUInt32 >>> ((6 : Int32) &&& 31).toUInt32).toInt32)), (.ref ba)])) := K84.trans (by
      refine XS.iloadN X83.here hx rfl (hb hby d3_30) rfl ?_
      refine (own_ldI X83 hx hZ e83 V_ma (j := (0 : Int32)) ⟨by decide, by decide⟩ (own_mg hI hn 0 (by decide)) (g := (mkF m 31 #[.val (.ref o0), .val (.int (0 : Int32))] [(.int (0 : Int32)), (.ref ma), (.long (1 : Int64)), (.long (own_gl vs (((own_mem vm 0).toUInt32 >>> ((6 : Int32) &&& 31).toUInt32).toInt32).toNatClampNeg)), (.int (((own_mem vm 0).toUInt32 >>> ((6 : Int32) &&& 31).toUInt32).toInt32)), (.ref ba)])) rfl rfl (hb hby d3_31)).trans ?_
      refine XS.lshl X83.here hx rfl (hb hby d3_32) rfl ?_
      refine X83.ldc2Long hx hown (mvT hZ (hw _ (List.mem_of_getElem? (i := 33) rfl))) (g := (mkF m 33 #[.val (.ref o0), .val (.int (0 : Int32))] [(.long ((1 : Int64) <<< ((own_mem vm 0) &&& 0x3f).toInt64)), (.long (own_gl vs (((own_mem vm 0).toUInt32 >>> ((6 : Int32) &&& 31).toUInt32).toInt32).toNatClampNeg)), (.int (((own_mem vm 0).toUInt32 >>> ((6 : Int32) &&& 31).toUInt32).toInt32)), (.ref ba)])) rfl (hb hby d3_33) _ ?_
      refine XS.lxor X83.here hx rfl (hb hby d3_36) rfl ?_
      show Steps p.tables e below (T83.setTop (mkF m 37 #[.val (.ref o0), .val (.int (0 : Int32))] [(.long (((1 : Int64) <<< ((own_mem vm 0) &&& 0x3f).toInt64) ^^^ (-1 : Int64))), (.long (own_gl vs (((own_mem vm 0).toUInt32 >>> ((6 : Int32) &&& 31).toUInt32).toInt32).toNatClampNeg)), (.int (((own_mem vm 0).toUInt32 >>> ((6 : Int32) &&& 31).toUInt32).toInt32)), (.ref ba)])) _
      refine XS.land X83.here hx rfl (hb hby d3_37) rfl ?_
      exact Steps.refl _)
    obtain ⟨T86, h86, X86, e86, W86, V86, st86⟩ := own_stJ X83 hx hZ e83 V_ba (j := (((own_mem vm 0).toUInt32 >>> ((6 : Int32) &&& 31).toUInt32).toInt32)) (own_mw hk.2.1) (((own_mem vm 0).toUInt32 >>> ((6 : Int32) &&& 31).toUInt32).toInt32).toNatClampNeg rfl (own_ml hk.1 hk.2.1) (g := (mkF m 38 #[.val (.ref o0), .val (.int (0 : Int32))] [(.long ((own_gl vs (((own_mem vm 0).toUInt32 >>> ((6 : Int32) &&& 31).toUInt32).toInt32).toNatClampNeg) &&& (((1 : Int64) <<< ((own_mem vm 0) &&& 0x3f).toInt64) ^^^ (-1 : Int64)))), (.int (((own_mem vm 0).toUInt32 >>> ((6 : Int32) &&& 31).toUInt32).toInt32)), (.ref ba)])) rfl rfl (hb hby d3_38)
    have K87 : Steps p.tables e below _ (T86.setTop (mkF m 39 #[.val (.ref o0), .val (.int (0 : Int32))] [])) := K85.trans st86
    have Vw86 : Arv Z h86 ba kb .long z (vs.set (((own_mem vm 0).toUInt32 >>> ((6 : Int32) &&& 31).toUInt32).toInt32).toNatClampNeg (.long ((own_gl vs (((own_mem vm 0).toUInt32 >>> ((6 : Int32) &&& 31).toUInt32).toInt32).toNatClampNeg) &&& (((1 : Int64) <<< ((own_mem vm 0) &&& 0x3f).toInt64) ^^^ (-1 : Int64))))) (.long (0 : Int64)) := V86
    have N86 := Fr.snoc X86 N0 g_ba
    obtain ⟨Lg86, Xg86, Ng86⟩ : ∃ Lg, Stand p l e ({ frames := 0, cells := 0, slots := 0, locals := 0 } : Room) s m #[(.ref o0)] below meth c T86 Lg 0 0 ∧ Fr n0 Lg := ⟨_, X86, N86⟩
    obtain ⟨vsc1, hvsc1⟩ : ∃ z : List Value, (vs.set (((own_mem vm 0).toUInt32 >>> ((6 : Int32) &&& 31).toUInt32).toInt32).toNatClampNeg (.long ((own_gl vs (((own_mem vm 0).toUInt32 >>> ((6 : Int32) &&& 31).toUInt32).toInt32).toNatClampNeg) &&& (((1 : Int64) <<< ((own_mem vm 0) &&& 0x3f).toInt64) ^^^ (-1 : Int64))))) = z := ⟨_, rfl⟩
    rw [hvsc1] at Vw86
    have hC1 := own_clrcl hk.1 hk.2.2.1 hk.2.1 hvsc1
    have K88 : Steps p.tables e below _ (T86.setTop (mkF m 4 #[.val (.ref o0), .val (.int (1 : Int32))] [(.ref o0), (.int (1 : Int32))])) := K87.trans (by
      refine XS.iinc Xg86.here hx rfl (hb hby d3_39) rfl (l' := #[.val (.ref o0), .val (.int (1 : Int32))]) rfl ?_
      refine XS.goto Xg86.here hx rfl (pc0 := 42) (pc' := 2) rfl (hb hby d3_42) (by decide) (by decide) ?_
      refine XS.iloadN Xg86.here hx rfl (hb hby d3_2) rfl ?_
      refine XS.aloadN Xg86.here hx rfl (hb hby d3_3) rfl rfl ?_
      exact Steps.refl _)
    have F_89 : Fld Z h86 o0 "com/example/futures_from_states/futuresfromstates/model/StateSet" "size" "I" (.int (3 : Int32)) := (F_size_o0.other W86 (Or.inl ne_o0_ba))
    obtain ⟨T90, X90, e90, st90⟩ := getF Xg86 hx hZ hown (host := "") (Or.inl (hw _ (List.mem_of_getElem? (i := 21) rfl))) Via.refl e86 F_89 (g := (mkF m 4 #[.val (.ref o0), .val (.int (1 : Int32))] [(.ref o0), (.int (1 : Int32))])) rfl rfl (hb hby d3_4)
    have K91 : Steps p.tables e below _ (T90.setTop (mkF m 7 #[.val (.ref o0), .val (.int (1 : Int32))] [(.int (3 : Int32)), (.int (1 : Int32))])) := K88.trans (st90 _ (Steps.refl _))
    have K92 : Steps p.tables e below _ (T90.setTop (mkF m 11 #[.val (.ref o0), .val (.int (1 : Int32))] [(.ref o0)])) := K91.trans (by
      refine XS.icmpNo X90.here hx rfl (hb hby d3_7) rfl (tlt (by decide : (1 : Int32) < (3 : Int32))).2.1 ?_
      refine XS.aloadN X90.here hx rfl (hb hby d3_10) rfl rfl ?_
      exact Steps.refl _)
    have F_93 : Fld Z h86 o0 "com/example/futures_from_states/futuresfromstates/model/StateSet" "bits" "[J" (.ref ba) := (F_bits_o0.other W86 (Or.inl ne_o0_ba))
    obtain ⟨T94, X94, e94, st94⟩ := getF X90 hx hZ hown (host := "") (Or.inl (hw _ (List.mem_of_getElem? (i := 11) rfl))) Via.refl e90 F_93 (g := (mkF m 11 #[.val (.ref o0), .val (.int (1 : Int32))] [(.ref o0)])) rfl rfl (hb hby d3_11)
    have K95 : Steps p.tables e below _ (T94.setTop (mkF m 14 #[.val (.ref o0), .val (.int (1 : Int32))] [(.ref ba)])) := K92.trans (st94 _ (Steps.refl _))
    have K96 : Steps p.tables e below _ (T94.setTop (mkF m 15 #[.val (.ref o0), .val (.int (1 : Int32))] [(.ref o0), (.ref ba)])) := K95.trans (by
      refine XS.aloadN X94.here hx rfl (hb hby d3_14) rfl rfl ?_
      exact Steps.refl _)
    have F_97 : Fld Z h86 o0 "com/example/futures_from_states/futuresfromstates/model/StateSet" "members" "[I" (.ref ma) := (F_members_o0.other W86 (Or.inl ne_o0_ba))
    obtain ⟨T98, X98, e98, st98⟩ := getF X94 hx hZ hown (host := "") (Or.inl (hw _ (List.mem_of_getElem? (i := 14) rfl))) Via.refl e94 F_97 (g := (mkF m 15 #[.val (.ref o0), .val (.int (1 : Int32))] [(.ref o0), (.ref ba)])) rfl rfl (hb hby d3_15)
    have K99 : Steps p.tables e below _ (T98.setTop (mkF m 18 #[.val (.ref o0), .val (.int (1 : Int32))] [(.ref ma), (.ref ba)])) := K96.trans (st98 _ (Steps.refl _))
    have V_100 : Arv Z h86 ma km .int (16 : Int32) vm (.int (0 : Int32)) := (V_ma.other W86 (Ne.symm ne_ba_ma))
    have K101 : Steps p.tables e below _ (T98.setTop (mkF m 27 #[.val (.ref o0), .val (.int (1 : Int32))] [(.ref o0), (.long (1 : Int64)), (.long (own_gl vsc1 (((own_mem vm 1).toUInt32 >>> ((6 : Int32) &&& 31).toUInt32).toInt32).toNatClampNeg)), (.int (((own_mem vm 1).toUInt32 >>> ((6 : Int32) &&& 31).toUInt32).toInt32)), (.ref ba)])) := K99.trans (by
      refine XS.iloadN X98.here hx rfl (hb hby d3_18) rfl ?_
      refine (own_ldI X98 hx hZ e98 V_100 (j := (1 : Int32)) ⟨by decide, by decide⟩ (own_mg hI hn 1 (by decide)) (g := (mkF m 19 #[.val (.ref o0), .val (.int (1 : Int32))] [(.int (1 : Int32)), (.ref ma), (.ref ba)])) rfl rfl (hb hby d3_19)).trans ?_
      refine XS.bipush X98.here hx rfl (hb hby d3_20) ?_
      refine XS.iushr X98.here hx rfl (hb hby d3_22) rfl ?_
      refine Jvm.Free.XT.dup2 X98.here hx rfl (hb hby d3_23) rfl rfl rfl ?_
      show Steps p.tables e below (T98.setTop (mkF m 24 #[.val (.ref o0), .val (.int (1 : Int32))] [(.int (((own_mem vm 1).toUInt32 >>> ((6 : Int32) &&& 31).toUInt32).toInt32)), (.ref ba), (.int (((own_mem vm 1).toUInt32 >>> ((6 : Int32) &&& 31).toUInt32).toInt32)), (.ref ba)])) _
      refine (own_ldJ X98 hx hZ e98 Vw86 (j := (((own_mem vm 1).toUInt32 >>> ((6 : Int32) &&& 31).toUInt32).toInt32)) (own_mw hk.2.2.2.1) (hC1.2.1 _) (g := (mkF m 24 #[.val (.ref o0), .val (.int (1 : Int32))] [(.int (((own_mem vm 1).toUInt32 >>> ((6 : Int32) &&& 31).toUInt32).toInt32)), (.ref ba), (.int (((own_mem vm 1).toUInt32 >>> ((6 : Int32) &&& 31).toUInt32).toInt32)), (.ref ba)])) rfl rfl (hb hby d3_24)).trans ?_
      refine XS.lconst X98.here hx rfl (hb hby d3_25) ?_
      refine XS.aloadN X98.here hx rfl (hb hby d3_26) rfl rfl ?_
      exact Steps.refl _)
    obtain ⟨T102, X102, e102, st102⟩ := getF X98 hx hZ hown (host := "") (Or.inl (hw _ (List.mem_of_getElem? (i := 14) rfl))) Via.refl e98 F_97 (g := (mkF m 27 #[.val (.ref o0), .val (.int (1 : Int32))] [(.ref o0), (.long (1 : Int64)), (.long (own_gl vsc1 (((own_mem vm 1).toUInt32 >>> ((6 : Int32) &&& 31).toUInt32).toInt32).toNatClampNeg)), (.int (((own_mem vm 1).toUInt32 >>> ((6 : Int32) &&& 31).toUInt32).toInt32)), (.ref ba)])) rfl rfl (hb hby d3_27)
    have K103 : Steps p.tables e below _ (T102.setTop (mkF m 30 #[.val (.ref o0), .val (.int (1 : Int32))] [(.ref ma), (.long (1 : Int64)), (.long (own_gl vsc1 (((own_mem vm 1).toUInt32 >>> ((6 : Int32) &&& 31).toUInt32).toInt32).toNatClampNeg)), (.int (((own_mem vm 1).toUInt32 >>> ((6 : Int32) &&& 31).toUInt32).toInt32)), (.ref ba)])) := K101.trans (st102 _ (Steps.refl _))
    have K104 : Steps p.tables e below _ (T102.setTop (mkF m 38 #[.val (.ref o0), .val (.int (1 : Int32))] [(.long ((own_gl vsc1 (((own_mem vm 1).toUInt32 >>> ((6 : Int32) &&& 31).toUInt32).toInt32).toNatClampNeg) &&& (((1 : Int64) <<< ((own_mem vm 1) &&& 0x3f).toInt64) ^^^ (-1 : Int64)))), (.int (((own_mem vm 1).toUInt32 >>> ((6 : Int32) &&& 31).toUInt32).toInt32)), (.ref ba)])) := K103.trans (by
      refine XS.iloadN X102.here hx rfl (hb hby d3_30) rfl ?_
      refine (own_ldI X102 hx hZ e102 V_100 (j := (1 : Int32)) ⟨by decide, by decide⟩ (own_mg hI hn 1 (by decide)) (g := (mkF m 31 #[.val (.ref o0), .val (.int (1 : Int32))] [(.int (1 : Int32)), (.ref ma), (.long (1 : Int64)), (.long (own_gl vsc1 (((own_mem vm 1).toUInt32 >>> ((6 : Int32) &&& 31).toUInt32).toInt32).toNatClampNeg)), (.int (((own_mem vm 1).toUInt32 >>> ((6 : Int32) &&& 31).toUInt32).toInt32)), (.ref ba)])) rfl rfl (hb hby d3_31)).trans ?_
      refine XS.lshl X102.here hx rfl (hb hby d3_32) rfl ?_
      refine X102.ldc2Long hx hown (mvT hZ (hw _ (List.mem_of_getElem? (i := 33) rfl))) (g := (mkF m 33 #[.val (.ref o0), .val (.int (1 : Int32))] [(.long ((1 : Int64) <<< ((own_mem vm 1) &&& 0x3f).toInt64)), (.long (own_gl vsc1 (((own_mem vm 1).toUInt32 >>> ((6 : Int32) &&& 31).toUInt32).toInt32).toNatClampNeg)), (.int (((own_mem vm 1).toUInt32 >>> ((6 : Int32) &&& 31).toUInt32).toInt32)), (.ref ba)])) rfl (hb hby d3_33) _ ?_
      refine XS.lxor X102.here hx rfl (hb hby d3_36) rfl ?_
      show Steps p.tables e below (T102.setTop (mkF m 37 #[.val (.ref o0), .val (.int (1 : Int32))] [(.long (((1 : Int64) <<< ((own_mem vm 1) &&& 0x3f).toInt64) ^^^ (-1 : Int64))), (.long (own_gl vsc1 (((own_mem vm 1).toUInt32 >>> ((6 : Int32) &&& 31).toUInt32).toInt32).toNatClampNeg)), (.int (((own_mem vm 1).toUInt32 >>> ((6 : Int32) &&& 31).toUInt32).toInt32)), (.ref ba)])) _
      refine XS.land X102.here hx rfl (hb hby d3_37) rfl ?_
      exact Steps.refl _)
    obtain ⟨T105, h105, X105, e105, W105, V105, st105⟩ := own_stJ X102 hx hZ e102 Vw86 (j := (((own_mem vm 1).toUInt32 >>> ((6 : Int32) &&& 31).toUInt32).toInt32)) (own_mw hk.2.2.2.1) (((own_mem vm 1).toUInt32 >>> ((6 : Int32) &&& 31).toUInt32).toInt32).toNatClampNeg rfl (own_ml hC1 hk.2.2.2.1) (g := (mkF m 38 #[.val (.ref o0), .val (.int (1 : Int32))] [(.long ((own_gl vsc1 (((own_mem vm 1).toUInt32 >>> ((6 : Int32) &&& 31).toUInt32).toInt32).toNatClampNeg) &&& (((1 : Int64) <<< ((own_mem vm 1) &&& 0x3f).toInt64) ^^^ (-1 : Int64)))), (.int (((own_mem vm 1).toUInt32 >>> ((6 : Int32) &&& 31).toUInt32).toInt32)), (.ref ba)])) rfl rfl (hb hby d3_38)
    have K106 : Steps p.tables e below _ (T105.setTop (mkF m 39 #[.val (.ref o0), .val (.int (1 : Int32))] [])) := K104.trans st105
    have Vw105 : Arv Z h105 ba kb .long z (vsc1.set (((own_mem vm 1).toUInt32 >>> ((6 : Int32) &&& 31).toUInt32).toInt32).toNatClampNeg (.long ((own_gl vsc1 (((own_mem vm 1).toUInt32 >>> ((6 : Int32) &&& 31).toUInt32).toInt32).toNatClampNeg) &&& (((1 : Int64) <<< ((own_mem vm 1) &&& 0x3f).toInt64) ^^^ (-1 : Int64))))) (.long (0 : Int64)) := V105
    have N105 := Fr.snoc X105 Ng86 g_ba
    obtain ⟨Lg105, Xg105, Ng105⟩ : ∃ Lg, Stand p l e ({ frames := 0, cells := 0, slots := 0, locals := 0 } : Room) s m #[(.ref o0)] below meth c T105 Lg 0 0 ∧ Fr n0 Lg := ⟨_, X105, N105⟩
    obtain ⟨vsc2, hvsc2⟩ : ∃ z : List Value, (vsc1.set (((own_mem vm 1).toUInt32 >>> ((6 : Int32) &&& 31).toUInt32).toInt32).toNatClampNeg (.long ((own_gl vsc1 (((own_mem vm 1).toUInt32 >>> ((6 : Int32) &&& 31).toUInt32).toInt32).toNatClampNeg) &&& (((1 : Int64) <<< ((own_mem vm 1) &&& 0x3f).toInt64) ^^^ (-1 : Int64))))) = z := ⟨_, rfl⟩
    rw [hvsc2] at Vw105
    have hC2 := own_clrcl hC1 hk.2.2.2.2.1 hk.2.2.2.1 hvsc2
    have K107 : Steps p.tables e below _ (T105.setTop (mkF m 4 #[.val (.ref o0), .val (.int (2 : Int32))] [(.ref o0), (.int (2 : Int32))])) := K106.trans (by
      refine XS.iinc Xg105.here hx rfl (hb hby d3_39) rfl (l' := #[.val (.ref o0), .val (.int (2 : Int32))]) rfl ?_
      refine XS.goto Xg105.here hx rfl (pc0 := 42) (pc' := 2) rfl (hb hby d3_42) (by decide) (by decide) ?_
      refine XS.iloadN Xg105.here hx rfl (hb hby d3_2) rfl ?_
      refine XS.aloadN Xg105.here hx rfl (hb hby d3_3) rfl rfl ?_
      exact Steps.refl _)
    have F_108 : Fld Z h105 o0 "com/example/futures_from_states/futuresfromstates/model/StateSet" "size" "I" (.int (3 : Int32)) := (F_89.other W105 (Or.inl ne_o0_ba))
    obtain ⟨T109, X109, e109, st109⟩ := getF Xg105 hx hZ hown (host := "") (Or.inl (hw _ (List.mem_of_getElem? (i := 21) rfl))) Via.refl e105 F_108 (g := (mkF m 4 #[.val (.ref o0), .val (.int (2 : Int32))] [(.ref o0), (.int (2 : Int32))])) rfl rfl (hb hby d3_4)
    have K110 : Steps p.tables e below _ (T109.setTop (mkF m 7 #[.val (.ref o0), .val (.int (2 : Int32))] [(.int (3 : Int32)), (.int (2 : Int32))])) := K107.trans (st109 _ (Steps.refl _))
    have K111 : Steps p.tables e below _ (T109.setTop (mkF m 11 #[.val (.ref o0), .val (.int (2 : Int32))] [(.ref o0)])) := K110.trans (by
      refine XS.icmpNo X109.here hx rfl (hb hby d3_7) rfl (tlt (by decide : (2 : Int32) < (3 : Int32))).2.1 ?_
      refine XS.aloadN X109.here hx rfl (hb hby d3_10) rfl rfl ?_
      exact Steps.refl _)
    have F_112 : Fld Z h105 o0 "com/example/futures_from_states/futuresfromstates/model/StateSet" "bits" "[J" (.ref ba) := (F_93.other W105 (Or.inl ne_o0_ba))
    obtain ⟨T113, X113, e113, st113⟩ := getF X109 hx hZ hown (host := "") (Or.inl (hw _ (List.mem_of_getElem? (i := 11) rfl))) Via.refl e109 F_112 (g := (mkF m 11 #[.val (.ref o0), .val (.int (2 : Int32))] [(.ref o0)])) rfl rfl (hb hby d3_11)
    have K114 : Steps p.tables e below _ (T113.setTop (mkF m 14 #[.val (.ref o0), .val (.int (2 : Int32))] [(.ref ba)])) := K111.trans (st113 _ (Steps.refl _))
    have K115 : Steps p.tables e below _ (T113.setTop (mkF m 15 #[.val (.ref o0), .val (.int (2 : Int32))] [(.ref o0), (.ref ba)])) := K114.trans (by
      refine XS.aloadN X113.here hx rfl (hb hby d3_14) rfl rfl ?_
      exact Steps.refl _)
    have F_116 : Fld Z h105 o0 "com/example/futures_from_states/futuresfromstates/model/StateSet" "members" "[I" (.ref ma) := (F_97.other W105 (Or.inl ne_o0_ba))
    obtain ⟨T117, X117, e117, st117⟩ := getF X113 hx hZ hown (host := "") (Or.inl (hw _ (List.mem_of_getElem? (i := 14) rfl))) Via.refl e113 F_116 (g := (mkF m 15 #[.val (.ref o0), .val (.int (2 : Int32))] [(.ref o0), (.ref ba)])) rfl rfl (hb hby d3_15)
    have K118 : Steps p.tables e below _ (T117.setTop (mkF m 18 #[.val (.ref o0), .val (.int (2 : Int32))] [(.ref ma), (.ref ba)])) := K115.trans (st117 _ (Steps.refl _))
    have V_119 : Arv Z h105 ma km .int (16 : Int32) vm (.int (0 : Int32)) := (V_100.other W105 (Ne.symm ne_ba_ma))
    have K120 : Steps p.tables e below _ (T117.setTop (mkF m 27 #[.val (.ref o0), .val (.int (2 : Int32))] [(.ref o0), (.long (1 : Int64)), (.long (own_gl vsc2 (((own_mem vm 2).toUInt32 >>> ((6 : Int32) &&& 31).toUInt32).toInt32).toNatClampNeg)), (.int (((own_mem vm 2).toUInt32 >>> ((6 : Int32) &&& 31).toUInt32).toInt32)), (.ref ba)])) := K118.trans (by
      refine XS.iloadN X117.here hx rfl (hb hby d3_18) rfl ?_
      refine (own_ldI X117 hx hZ e117 V_119 (j := (2 : Int32)) ⟨by decide, by decide⟩ (own_mg hI hn 2 (by decide)) (g := (mkF m 19 #[.val (.ref o0), .val (.int (2 : Int32))] [(.int (2 : Int32)), (.ref ma), (.ref ba)])) rfl rfl (hb hby d3_19)).trans ?_
      refine XS.bipush X117.here hx rfl (hb hby d3_20) ?_
      refine XS.iushr X117.here hx rfl (hb hby d3_22) rfl ?_
      refine Jvm.Free.XT.dup2 X117.here hx rfl (hb hby d3_23) rfl rfl rfl ?_
      show Steps p.tables e below (T117.setTop (mkF m 24 #[.val (.ref o0), .val (.int (2 : Int32))] [(.int (((own_mem vm 2).toUInt32 >>> ((6 : Int32) &&& 31).toUInt32).toInt32)), (.ref ba), (.int (((own_mem vm 2).toUInt32 >>> ((6 : Int32) &&& 31).toUInt32).toInt32)), (.ref ba)])) _
      refine (own_ldJ X117 hx hZ e117 Vw105 (j := (((own_mem vm 2).toUInt32 >>> ((6 : Int32) &&& 31).toUInt32).toInt32)) (own_mw hk.2.2.2.2.2.1) (hC2.2.1 _) (g := (mkF m 24 #[.val (.ref o0), .val (.int (2 : Int32))] [(.int (((own_mem vm 2).toUInt32 >>> ((6 : Int32) &&& 31).toUInt32).toInt32)), (.ref ba), (.int (((own_mem vm 2).toUInt32 >>> ((6 : Int32) &&& 31).toUInt32).toInt32)), (.ref ba)])) rfl rfl (hb hby d3_24)).trans ?_
      refine XS.lconst X117.here hx rfl (hb hby d3_25) ?_
      refine XS.aloadN X117.here hx rfl (hb hby d3_26) rfl rfl ?_
      exact Steps.refl _)
    obtain ⟨T121, X121, e121, st121⟩ := getF X117 hx hZ hown (host := "") (Or.inl (hw _ (List.mem_of_getElem? (i := 14) rfl))) Via.refl e117 F_116 (g := (mkF m 27 #[.val (.ref o0), .val (.int (2 : Int32))] [(.ref o0), (.long (1 : Int64)), (.long (own_gl vsc2 (((own_mem vm 2).toUInt32 >>> ((6 : Int32) &&& 31).toUInt32).toInt32).toNatClampNeg)), (.int (((own_mem vm 2).toUInt32 >>> ((6 : Int32) &&& 31).toUInt32).toInt32)), (.ref ba)])) rfl rfl (hb hby d3_27)
    have K122 : Steps p.tables e below _ (T121.setTop (mkF m 30 #[.val (.ref o0), .val (.int (2 : Int32))] [(.ref ma), (.long (1 : Int64)), (.long (own_gl vsc2 (((own_mem vm 2).toUInt32 >>> ((6 : Int32) &&& 31).toUInt32).toInt32).toNatClampNeg)), (.int (((own_mem vm 2).toUInt32 >>> ((6 : Int32) &&& 31).toUInt32).toInt32)), (.ref ba)])) := K120.trans (st121 _ (Steps.refl _))
    have K123 : Steps p.tables e below _ (T121.setTop (mkF m 38 #[.val (.ref o0), .val (.int (2 : Int32))] [(.long ((own_gl vsc2 (((own_mem vm 2).toUInt32 >>> ((6 : Int32) &&& 31).toUInt32).toInt32).toNatClampNeg) &&& (((1 : Int64) <<< ((own_mem vm 2) &&& 0x3f).toInt64) ^^^ (-1 : Int64)))), (.int (((own_mem vm 2).toUInt32 >>> ((6 : Int32) &&& 31).toUInt32).toInt32)), (.ref ba)])) := K122.trans (by
      refine XS.iloadN X121.here hx rfl (hb hby d3_30) rfl ?_
      refine (own_ldI X121 hx hZ e121 V_119 (j := (2 : Int32)) ⟨by decide, by decide⟩ (own_mg hI hn 2 (by decide)) (g := (mkF m 31 #[.val (.ref o0), .val (.int (2 : Int32))] [(.int (2 : Int32)), (.ref ma), (.long (1 : Int64)), (.long (own_gl vsc2 (((own_mem vm 2).toUInt32 >>> ((6 : Int32) &&& 31).toUInt32).toInt32).toNatClampNeg)), (.int (((own_mem vm 2).toUInt32 >>> ((6 : Int32) &&& 31).toUInt32).toInt32)), (.ref ba)])) rfl rfl (hb hby d3_31)).trans ?_
      refine XS.lshl X121.here hx rfl (hb hby d3_32) rfl ?_
      refine X121.ldc2Long hx hown (mvT hZ (hw _ (List.mem_of_getElem? (i := 33) rfl))) (g := (mkF m 33 #[.val (.ref o0), .val (.int (2 : Int32))] [(.long ((1 : Int64) <<< ((own_mem vm 2) &&& 0x3f).toInt64)), (.long (own_gl vsc2 (((own_mem vm 2).toUInt32 >>> ((6 : Int32) &&& 31).toUInt32).toInt32).toNatClampNeg)), (.int (((own_mem vm 2).toUInt32 >>> ((6 : Int32) &&& 31).toUInt32).toInt32)), (.ref ba)])) rfl (hb hby d3_33) _ ?_
      refine XS.lxor X121.here hx rfl (hb hby d3_36) rfl ?_
      show Steps p.tables e below (T121.setTop (mkF m 37 #[.val (.ref o0), .val (.int (2 : Int32))] [(.long (((1 : Int64) <<< ((own_mem vm 2) &&& 0x3f).toInt64) ^^^ (-1 : Int64))), (.long (own_gl vsc2 (((own_mem vm 2).toUInt32 >>> ((6 : Int32) &&& 31).toUInt32).toInt32).toNatClampNeg)), (.int (((own_mem vm 2).toUInt32 >>> ((6 : Int32) &&& 31).toUInt32).toInt32)), (.ref ba)])) _
      refine XS.land X121.here hx rfl (hb hby d3_37) rfl ?_
      exact Steps.refl _)
    obtain ⟨T124, h124, X124, e124, W124, V124, st124⟩ := own_stJ X121 hx hZ e121 Vw105 (j := (((own_mem vm 2).toUInt32 >>> ((6 : Int32) &&& 31).toUInt32).toInt32)) (own_mw hk.2.2.2.2.2.1) (((own_mem vm 2).toUInt32 >>> ((6 : Int32) &&& 31).toUInt32).toInt32).toNatClampNeg rfl (own_ml hC2 hk.2.2.2.2.2.1) (g := (mkF m 38 #[.val (.ref o0), .val (.int (2 : Int32))] [(.long ((own_gl vsc2 (((own_mem vm 2).toUInt32 >>> ((6 : Int32) &&& 31).toUInt32).toInt32).toNatClampNeg) &&& (((1 : Int64) <<< ((own_mem vm 2) &&& 0x3f).toInt64) ^^^ (-1 : Int64)))), (.int (((own_mem vm 2).toUInt32 >>> ((6 : Int32) &&& 31).toUInt32).toInt32)), (.ref ba)])) rfl rfl (hb hby d3_38)
    have K125 : Steps p.tables e below _ (T124.setTop (mkF m 39 #[.val (.ref o0), .val (.int (2 : Int32))] [])) := K123.trans st124
    have Vw124 : Arv Z h124 ba kb .long z (vsc2.set (((own_mem vm 2).toUInt32 >>> ((6 : Int32) &&& 31).toUInt32).toInt32).toNatClampNeg (.long ((own_gl vsc2 (((own_mem vm 2).toUInt32 >>> ((6 : Int32) &&& 31).toUInt32).toInt32).toNatClampNeg) &&& (((1 : Int64) <<< ((own_mem vm 2) &&& 0x3f).toInt64) ^^^ (-1 : Int64))))) (.long (0 : Int64)) := V124
    have N124 := Fr.snoc X124 Ng105 g_ba
    obtain ⟨Lg124, Xg124, Ng124⟩ : ∃ Lg, Stand p l e ({ frames := 0, cells := 0, slots := 0, locals := 0 } : Room) s m #[(.ref o0)] below meth c T124 Lg 0 0 ∧ Fr n0 Lg := ⟨_, X124, N124⟩
    obtain ⟨vsc3, hvsc3⟩ : ∃ z : List Value, (vsc2.set (((own_mem vm 2).toUInt32 >>> ((6 : Int32) &&& 31).toUInt32).toInt32).toNatClampNeg (.long ((own_gl vsc2 (((own_mem vm 2).toUInt32 >>> ((6 : Int32) &&& 31).toUInt32).toInt32).toNatClampNeg) &&& (((1 : Int64) <<< ((own_mem vm 2) &&& 0x3f).toInt64) ^^^ (-1 : Int64))))) = z := ⟨_, rfl⟩
    rw [hvsc3] at Vw124
    have hC3 := own_clrcl hC2 hk.2.2.2.2.2.2 hk.2.2.2.2.2.1 hvsc3
    have K126 : Steps p.tables e below _ (T124.setTop (mkF m 4 #[.val (.ref o0), .val (.int (3 : Int32))] [(.ref o0), (.int (3 : Int32))])) := K125.trans (by
      refine XS.iinc Xg124.here hx rfl (hb hby d3_39) rfl (l' := #[.val (.ref o0), .val (.int (3 : Int32))]) rfl ?_
      refine XS.goto Xg124.here hx rfl (pc0 := 42) (pc' := 2) rfl (hb hby d3_42) (by decide) (by decide) ?_
      refine XS.iloadN Xg124.here hx rfl (hb hby d3_2) rfl ?_
      refine XS.aloadN Xg124.here hx rfl (hb hby d3_3) rfl rfl ?_
      exact Steps.refl _)
    have F_127 : Fld Z h124 o0 "com/example/futures_from_states/futuresfromstates/model/StateSet" "size" "I" (.int (3 : Int32)) := (F_108.other W124 (Or.inl ne_o0_ba))
    obtain ⟨T128, X128, e128, st128⟩ := getF Xg124 hx hZ hown (host := "") (Or.inl (hw _ (List.mem_of_getElem? (i := 21) rfl))) Via.refl e124 F_127 (g := (mkF m 4 #[.val (.ref o0), .val (.int (3 : Int32))] [(.ref o0), (.int (3 : Int32))])) rfl rfl (hb hby d3_4)
    have K129 : Steps p.tables e below _ (T128.setTop (mkF m 7 #[.val (.ref o0), .val (.int (3 : Int32))] [(.int (3 : Int32)), (.int (3 : Int32))])) := K126.trans (st128 _ (Steps.refl _))
    have K130 : Steps p.tables e below _ (T128.setTop (mkF m 47 #[.val (.ref o0), .val (.int (3 : Int32))] [(.int (0 : Int32)), (.ref o0)])) := K129.trans (by
      refine XS.icmpYes X128.here hx rfl (pc0 := 7) (pc' := 45) rfl (hb hby d3_7) rfl (flt (by decide : ¬ ((3 : Int32) < (3 : Int32)))).2.1 (by decide) (by decide) ?_
      refine XS.aloadN X128.here hx rfl (hb hby d3_45) rfl rfl ?_
      refine XS.iconst X128.here hx rfl (hb hby d3_46) ?_
      exact Steps.refl _)
    have E_131 : Exa Z h124 o0 "com/example/futures_from_states/futuresfromstates/model/StateSet" := (((E_o0.wr W86).wr W105).wr W124)
    obtain ⟨T132, h132, X132, e132, W132, st132⟩ := putF X128 hx hZ hown (host := "") (Or.inl (hw _ (List.mem_of_getElem? (i := 21) rfl))) Via.refl e128 F_127 E_131 (Or.inl (hw _ (List.mem_of_getElem? (i := 22) rfl))) (hw _ (List.mem_of_getElem? (i := 2) rfl)) (ty := .int) (by decide) rfl rfl (g := (mkF m 47 #[.val (.ref o0), .val (.int (3 : Int32))] [(.int (0 : Int32)), (.ref o0)])) rfl rfl (hb hby d3_47)
    have K133 : Steps p.tables e below _ (T132.setTop (mkF m 50 #[.val (.ref o0), .val (.int (3 : Int32))] [])) := K130.trans (st132 _ (Steps.refl _))
    have Fw132 : Fld Z h132 o0 "com/example/futures_from_states/futuresfromstates/model/StateSet" "size" "I" (.int (0 : Int32)) := F_127.same W132
    have N132 := Fr.snoc X132 Ng124 g_o0
    obtain ⟨fs, hr, hrun, hended, hW, hsame⟩ := X132.leave (v := none) (fun _ => rfl)
    have K_149 : Keep h0 h132 [o0, ba] := ((((Kp0.wr W86 (Or.inl (List.mem_of_getElem? (i := 1) rfl))).wr W105 (Or.inl (List.mem_of_getElem? (i := 1) rfl))).wr W124 (Or.inl (List.mem_of_getElem? (i := 1) rfl))).wr W132 (Or.inl (List.mem_of_getElem? (i := 0) rfl)))
    have E_150 : Exa Z h132 o0 "com/example/futures_from_states/futuresfromstates/model/StateSet" := (E_131.wr W132)
    have F_151 : Fld Z h132 o0 "com/example/futures_from_states/futuresfromstates/model/StateSet" "bits" "[J" (.ref ba) := ((F_112.other W124 (Or.inl ne_o0_ba)).other W132 (Or.inr (slot_ne (Or.inl (hw _ (List.mem_of_getElem? (i := 12) rfl))) (Or.inl (hw _ (List.mem_of_getElem? (i := 22) rfl))) (by decide) (t := (.array .long)) (t' := .int) (by decide) (by decide))))
    have F_152 : Fld Z h132 o0 "com/example/futures_from_states/futuresfromstates/model/StateSet" "members" "[I" (.ref ma) := ((F_116.other W124 (Or.inl ne_o0_ba)).other W132 (Or.inr (slot_ne (Or.inl (hw _ (List.mem_of_getElem? (i := 15) rfl))) (Or.inl (hw _ (List.mem_of_getElem? (i := 22) rfl))) (by decide) (t := (.array .int)) (t' := .int) (by decide) (by decide))))
    have V_153 : Arv Z h132 ba kb .long z vsc3 (.long (0 : Int64)) := (Vw124.other W132 (Ne.symm ne_o0_ba))
    refine ⟨_, _, K133.trans (X132.returnOut hx Bd.returns (hb hby d3_50) hr), hrun, hended, _, _, rfl, ?_, ⟨_, rfl⟩, hW, hsame.mono (by decide) (by first | decide | omega)⟩
    show Q_rm3 Z o0 ba ma kb km z vs vm n S h0 n0 _ T132.heap _
    rw [e132]
    exact ⟨vsc3, rfl, N132, K_149, E_150, F_151, F_152, Fw132, V_153, (own_clr hI hC3)⟩
theorem pd_2 : parseMethodDescriptor "()V" = some ⟨[], none⟩ := by decide +kernel
theorem pd_3 : parseMethodDescriptor "()I" = some ⟨[], some .int⟩ := by decide +kernel
theorem pd_4 : parseMethodDescriptor "(I)Z" = some ⟨[.int], some .boolean⟩ := by decide +kernel
def Q_rm0 (n0 : Nat) (v : Option Value) (L : List Loc) : Prop := v = some (.int 1) ∧ Fr n0 L
theorem pn_0 : plainName "com/example/futures_from_states/futuresfromstates/model/StateSetClearPinLaw" = true := by first | (simp [plainName, overriddenIn]; done) | decide +kernel
theorem ef_0 (m : MethodId) (x0 : Int32) (x1 : Int32) (x2 : Int32) (x3 : Int32) (x4 : Int32) : entryFrame m #[(.int x0), (.int x1), (.int x2), (.int x3), (.int x4)] maxLocals = mkF m 0 #[.val (.int x0), .val (.int x1), .val (.int x2), .val (.int x3), .val (.int x4), .unset, .unset, .unset, .unset, .unset, .unset, .unset, .unset, .unset, .unset, .unset, .unset] [] := by first | (simp [entryFrame, mkF, argsToLocals, Value.category, maxLocals]; done) | rfl
set_option maxRecDepth 65536 in
set_option maxHeartbeats 4000000 in
theorem own_law_0 (p0 : Int32) (p1 : Int32) (p2 : Int32) (p3 : Int32) (p4 : Int32) (xa : Int32) (ya : Int32) (za : Int32) (wa : Int32) (r24 : Int32) (n2_23 : Int32) (r29 : Int32) (n2_28 : Int32) (r34 : Int32) (n2_33 : Int32) (v37_0 : Int32) (v42_0 : Int32) (v53_0 : Int32) (v60_0 : Int32) (v67_0 : Int32) (v72_0 : Int32) (v77_0 : Int32) (hxa : (p0 &&& (1048575 : Int32)) = xa) (hya : (p1 &&& (1048575 : Int32)) = ya) (hza : (p2 &&& (1048575 : Int32)) = za) (hwa : (p3 &&& (1048575 : Int32)) = wa) (hr24 : (own_ret ([]) ya) = r24) (hnn23 : (own_ln (own_addS [] ya)) = n2_23) (hr29 : (own_ret (own_addS [] ya) xa) = r29) (hnn28 : (own_ln (own_addS (own_addS [] ya) xa)) = n2_28) (hr34 : (own_ret (own_addS (own_addS [] ya) xa) wa) = r34) (hnn33 : (own_ln (own_addS (own_addS (own_addS [] ya) xa) wa)) = n2_33) (hv37_0 : (if r24 = (0 : Int32) then (0 : Int32) else (1 : Int32)) = v37_0) (hv42_0 : (if v37_0 = (0 : Int32) then (0 : Int32) else (if r29 = (if xa = ya then (0 : Int32) else (1 : Int32)) then (1 : Int32) else (0 : Int32))) = v42_0) (hv53_0 : (if wa = xa then (0 : Int32) else (if wa = ya then (0 : Int32) else (1 : Int32))) = v53_0) (hv60_0 : (if v42_0 = (0 : Int32) then (0 : Int32) else (if r34 = v53_0 then (1 : Int32) else (0 : Int32))) = v60_0) (hv67_0 : (if xa = ya then (1 : Int32) else (2 : Int32)) = v67_0) (hv72_0 : (if v53_0 = (0 : Int32) then v67_0 else (v67_0 + (1 : Int32))) = v72_0) (hv77_0 : (if v60_0 = (0 : Int32) then (0 : Int32) else (if n2_33 = v72_0 then (1 : Int32) else (0 : Int32))) = v77_0) : (v77_0 &&& 1) = (1 : Int32) := by
  exact own_last9 hr24 hr29 hr34 hnn33 hv37_0 hv42_0 hv53_0 hv60_0 hv67_0 hv72_0 hv77_0
set_option maxRecDepth 65536 in
set_option maxHeartbeats 4000000 in
theorem own_law_1 (p0 : Int32) (p1 : Int32) (p2 : Int32) (p3 : Int32) (p4 : Int32) (xa : Int32) (ya : Int32) (za : Int32) (wa : Int32) (r91 : Int32) (n2_90 : Int32) (r104 : Int32) (n2_103 : Int32) (r109 : Int32) (n2_108 : Int32) (r114 : Int32) (n2_113 : Int32) (v117_0 : Int32) (v122_0 : Int32) (v133_0 : Int32) (v140_0 : Int32) (v147_0 : Int32) (v152_0 : Int32) (v157_0 : Int32) (hxa : (p0 &&& (1048575 : Int32)) = xa) (hya : (p1 &&& (1048575 : Int32)) = ya) (hza : (p2 &&& (1048575 : Int32)) = za) (hwa : (p3 &&& (1048575 : Int32)) = wa) (hr91 : (own_ret ([]) xa) = r91) (hnn90 : (own_ln (own_addS [] xa)) = n2_90) (hr104 : (own_ret ([]) ya) = r104) (hnn103 : (own_ln (own_addS [] ya)) = n2_103) (hr109 : (own_ret (own_addS [] ya) xa) = r109) (hnn108 : (own_ln (own_addS (own_addS [] ya) xa)) = n2_108) (hr114 : (own_ret (own_addS (own_addS [] ya) xa) wa) = r114) (hnn113 : (own_ln (own_addS (own_addS (own_addS [] ya) xa) wa)) = n2_113) (hv117_0 : (if r104 = (0 : Int32) then (0 : Int32) else (1 : Int32)) = v117_0) (hv122_0 : (if v117_0 = (0 : Int32) then (0 : Int32) else (if r109 = (if xa = ya then (0 : Int32) else (1 : Int32)) then (1 : Int32) else (0 : Int32))) = v122_0) (hv133_0 : (if wa = xa then (0 : Int32) else (if wa = ya then (0 : Int32) else (1 : Int32))) = v133_0) (hv140_0 : (if v122_0 = (0 : Int32) then (0 : Int32) else (if r114 = v133_0 then (1 : Int32) else (0 : Int32))) = v140_0) (hv147_0 : (if xa = ya then (1 : Int32) else (2 : Int32)) = v147_0) (hv152_0 : (if v133_0 = (0 : Int32) then v147_0 else (v147_0 + (1 : Int32))) = v152_0) (hv157_0 : (if v140_0 = (0 : Int32) then (0 : Int32) else (if n2_113 = v152_0 then (1 : Int32) else (0 : Int32))) = v157_0) : (v157_0 &&& 1) = (1 : Int32) := by
  exact own_last9 hr104 hr109 hr114 hnn113 hv117_0 hv122_0 hv133_0 hv140_0 hv147_0 hv152_0 hv157_0
set_option maxRecDepth 65536 in
set_option maxHeartbeats 4000000 in
theorem own_law_2 (p0 : Int32) (p1 : Int32) (p2 : Int32) (p3 : Int32) (p4 : Int32) (xa : Int32) (ya : Int32) (za : Int32) (wa : Int32) (r171 : Int32) (n2_170 : Int32) (r176 : Int32) (n2_175 : Int32) (r189 : Int32) (n2_188 : Int32) (r194 : Int32) (n2_193 : Int32) (r199 : Int32) (n2_198 : Int32) (v202_0 : Int32) (v207_0 : Int32) (v218_0 : Int32) (v225_0 : Int32) (v232_0 : Int32) (v237_0 : Int32) (v242_0 : Int32) (hxa : (p0 &&& (1048575 : Int32)) = xa) (hya : (p1 &&& (1048575 : Int32)) = ya) (hza : (p2 &&& (1048575 : Int32)) = za) (hwa : (p3 &&& (1048575 : Int32)) = wa) (hr171 : (own_ret ([]) xa) = r171) (hnn170 : (own_ln (own_addS [] xa)) = n2_170) (hr176 : (own_ret (own_addS [] xa) ya) = r176) (hnn175 : (own_ln (own_addS (own_addS [] xa) ya)) = n2_175) (hr189 : (own_ret ([]) ya) = r189) (hnn188 : (own_ln (own_addS [] ya)) = n2_188) (hr194 : (own_ret (own_addS [] ya) xa) = r194) (hnn193 : (own_ln (own_addS (own_addS [] ya) xa)) = n2_193) (hr199 : (own_ret (own_addS (own_addS [] ya) xa) wa) = r199) (hnn198 : (own_ln (own_addS (own_addS (own_addS [] ya) xa) wa)) = n2_198) (hv202_0 : (if r189 = (0 : Int32) then (0 : Int32) else (1 : Int32)) = v202_0) (hv207_0 : (if v202_0 = (0 : Int32) then (0 : Int32) else (if r194 = (if xa = ya then (0 : Int32) else (1 : Int32)) then (1 : Int32) else (0 : Int32))) = v207_0) (hv218_0 : (if wa = xa then (0 : Int32) else (if wa = ya then (0 : Int32) else (1 : Int32))) = v218_0) (hv225_0 : (if v207_0 = (0 : Int32) then (0 : Int32) else (if r199 = v218_0 then (1 : Int32) else (0 : Int32))) = v225_0) (hv232_0 : (if xa = ya then (1 : Int32) else (2 : Int32)) = v232_0) (hv237_0 : (if v218_0 = (0 : Int32) then v232_0 else (v232_0 + (1 : Int32))) = v237_0) (hv242_0 : (if v225_0 = (0 : Int32) then (0 : Int32) else (if n2_198 = v237_0 then (1 : Int32) else (0 : Int32))) = v242_0) : (v242_0 &&& 1) = (1 : Int32) := by
  exact own_last9 hr189 hr194 hr199 hnn198 hv202_0 hv207_0 hv218_0 hv225_0 hv232_0 hv237_0 hv242_0
set_option maxRecDepth 65536 in
set_option maxHeartbeats 4000000 in
theorem own_law_3 (p0 : Int32) (p1 : Int32) (p2 : Int32) (p3 : Int32) (p4 : Int32) (xa : Int32) (ya : Int32) (za : Int32) (wa : Int32) (r256 : Int32) (n2_255 : Int32) (r261 : Int32) (n2_260 : Int32) (r266 : Int32) (n2_265 : Int32) (r279 : Int32) (n2_278 : Int32) (r284 : Int32) (n2_283 : Int32) (r289 : Int32) (n2_288 : Int32) (v292_0 : Int32) (v297_0 : Int32) (v308_0 : Int32) (v315_0 : Int32) (v322_0 : Int32) (v327_0 : Int32) (v332_0 : Int32) (hxa : (p0 &&& (1048575 : Int32)) = xa) (hya : (p1 &&& (1048575 : Int32)) = ya) (hza : (p2 &&& (1048575 : Int32)) = za) (hwa : (p3 &&& (1048575 : Int32)) = wa) (hr256 : (own_ret ([]) xa) = r256) (hnn255 : (own_ln (own_addS [] xa)) = n2_255) (hr261 : (own_ret (own_addS [] xa) ya) = r261) (hnn260 : (own_ln (own_addS (own_addS [] xa) ya)) = n2_260) (hr266 : (own_ret (own_addS (own_addS [] xa) ya) za) = r266) (hnn265 : (own_ln (own_addS (own_addS (own_addS [] xa) ya) za)) = n2_265) (hr279 : (own_ret ([]) ya) = r279) (hnn278 : (own_ln (own_addS [] ya)) = n2_278) (hr284 : (own_ret (own_addS [] ya) xa) = r284) (hnn283 : (own_ln (own_addS (own_addS [] ya) xa)) = n2_283) (hr289 : (own_ret (own_addS (own_addS [] ya) xa) wa) = r289) (hnn288 : (own_ln (own_addS (own_addS (own_addS [] ya) xa) wa)) = n2_288) (hv292_0 : (if r279 = (0 : Int32) then (0 : Int32) else (1 : Int32)) = v292_0) (hv297_0 : (if v292_0 = (0 : Int32) then (0 : Int32) else (if r284 = (if xa = ya then (0 : Int32) else (1 : Int32)) then (1 : Int32) else (0 : Int32))) = v297_0) (hv308_0 : (if wa = xa then (0 : Int32) else (if wa = ya then (0 : Int32) else (1 : Int32))) = v308_0) (hv315_0 : (if v297_0 = (0 : Int32) then (0 : Int32) else (if r289 = v308_0 then (1 : Int32) else (0 : Int32))) = v315_0) (hv322_0 : (if xa = ya then (1 : Int32) else (2 : Int32)) = v322_0) (hv327_0 : (if v308_0 = (0 : Int32) then v322_0 else (v322_0 + (1 : Int32))) = v327_0) (hv332_0 : (if v315_0 = (0 : Int32) then (0 : Int32) else (if n2_288 = v327_0 then (1 : Int32) else (0 : Int32))) = v332_0) : (v332_0 &&& 1) = (1 : Int32) := by
  exact own_last9 hr279 hr284 hr289 hnn288 hv292_0 hv297_0 hv308_0 hv315_0 hv322_0 hv327_0 hv332_0
set_option maxRecDepth 65536 in
set_option maxHeartbeats 40000000 in
theorem rm0 (l : Launch) (Z : State) (a0 : Array Value) (hw : ∀ d ∈ tables_1, d.before a0 Z = true) (ws : List Jvm.Cond) (p0 : Int32) (p1 : Int32) (p2 : Int32) (p3 : Int32) (p4 : Int32) (h0 : Heap) (n0 : Nat) (Z0 : n0 ≤ h0.size) :
    MetFree l x (head1 (Jvm.Cond.code x code maxLocals ret :: ws) room_1) (fun a U => a = #[(.int p0), (.int p1), (.int p2), (.int p3), (.int p4)] ∧ Z.Warmed39 U.vm ∧ U.heap = h0) (fun _ _ _ _ _ => True) (fun _ U o U' => ∃ v L, o = .returned v ∧ Q_rm0 n0 v L ∧ FrameEnd U o U' L 9 98432) := by
  refine MetFree.of_bodySF (plainFor_of_name pn_0) hisR ?_
  intro p e s m args below meth c s₁ Bd hml0 hP hK
  obtain ⟨rfl, hZ, hh⟩ := hP
  have hx := Bd.exec
  have hby := Bd.bytes
  have hml : c.maxLocals = 17 := hml0
  have hown : s.vm.findClass "com/example/futures_from_states/futuresfromstates/model/StateSetClearPinLaw" = some m.cls := findClass_of_methodNamed Bd.named
  have hnm := (name_of_methodNamed Bd.named Bd.method).1
  have X0 : Stand p l e room_1 s m #[(.int p0), (.int p1), (.int p2), (.int p3), (.int p4)] below meth c s₁ [] 0 0 := Stand.of_body Bd
  have e0 : s₁.heap = h0 := by rw [← hh, Bd.state]; rfl
  have N0 := Fr.nil n0
  have K0 : Steps p.tables e below (s₁.setTop (entryFrame m #[(.int p0), (.int p1), (.int p2), (.int p3), (.int p4)] maxLocals)) (s₁.setTop (mkF m 0 #[.val (.int p0), .val (.int p1), .val (.int p2), .val (.int p3), .val (.int p4), .unset, .unset, .unset, .unset, .unset, .unset, .unset, .unset, .unset, .unset, .unset, .unset] [])) := castTop (ef_0 m p0 p1 p2 p3 p4) (Steps.refl _)
  have K1 : Steps p.tables e below _ (s₁.setTop (mkF m 4 #[.val (.int p0), .val (.int p1), .val (.int p2), .val (.int p3), .val (.int p4), .unset, .unset, .unset, .unset, .unset, .unset, .unset, .unset, .unset, .unset, .unset, .unset] [(.int (p0 &&& (1048575 : Int32)))])) := K0.trans (by
    refine XS.iloadN X0.here hx rfl (hb hby at_0) rfl ?_
    refine X0.ldcInt hx hown (mvT hZ (hw _ (List.mem_of_getElem? (i := 0) rfl))) (g := (mkF m 1 #[.val (.int p0), .val (.int p1), .val (.int p2), .val (.int p3), .val (.int p4), .unset, .unset, .unset, .unset, .unset, .unset, .unset, .unset, .unset, .unset, .unset, .unset] [(.int p0)])) rfl (hb hby at_1) _ ?_
    refine XS.iand X0.here hx rfl (hb hby at_3) rfl ?_
    exact Steps.refl _)
  obtain ⟨xa, hxa⟩ : ∃ zq : Int32, (p0 &&& (1048575 : Int32)) = zq := ⟨_, rfl⟩
  rw [hxa] at K1
  have K2 : Steps p.tables e below _ (s₁.setTop (mkF m 10 #[.val (.int p0), .val (.int p1), .val (.int p2), .val (.int p3), .val (.int p4), .val (.int xa), .unset, .unset, .unset, .unset, .unset, .unset, .unset, .unset, .unset, .unset, .unset] [(.int (p1 &&& (1048575 : Int32)))])) := K1.trans (by
    refine XS.istore X0.here hx rfl (hb hby at_4) rfl (l' := #[.val (.int p0), .val (.int p1), .val (.int p2), .val (.int p3), .val (.int p4), .val (.int xa), .unset, .unset, .unset, .unset, .unset, .unset, .unset, .unset, .unset, .unset, .unset]) rfl ?_
    refine XS.iloadN X0.here hx rfl (hb hby at_6) rfl ?_
    refine X0.ldcInt hx hown (mvT hZ (hw _ (List.mem_of_getElem? (i := 0) rfl))) (g := (mkF m 7 #[.val (.int p0), .val (.int p1), .val (.int p2), .val (.int p3), .val (.int p4), .val (.int xa), .unset, .unset, .unset, .unset, .unset, .unset, .unset, .unset, .unset, .unset, .unset] [(.int p1)])) rfl (hb hby at_7) _ ?_
    refine XS.iand X0.here hx rfl (hb hby at_9) rfl ?_
    exact Steps.refl _)
  obtain ⟨ya, hya⟩ : ∃ zq : Int32, (p1 &&& (1048575 : Int32)) = zq := ⟨_, rfl⟩
  rw [hya] at K2
  have K3 : Steps p.tables e below _ (s₁.setTop (mkF m 16 #[.val (.int p0), .val (.int p1), .val (.int p2), .val (.int p3), .val (.int p4), .val (.int xa), .val (.int ya), .unset, .unset, .unset, .unset, .unset, .unset, .unset, .unset, .unset, .unset] [(.int (p2 &&& (1048575 : Int32)))])) := K2.trans (by
    refine XS.istore X0.here hx rfl (hb hby at_10) rfl (l' := #[.val (.int p0), .val (.int p1), .val (.int p2), .val (.int p3), .val (.int p4), .val (.int xa), .val (.int ya), .unset, .unset, .unset, .unset, .unset, .unset, .unset, .unset, .unset, .unset]) rfl ?_
    refine XS.iloadN X0.here hx rfl (hb hby at_12) rfl ?_
    refine X0.ldcInt hx hown (mvT hZ (hw _ (List.mem_of_getElem? (i := 0) rfl))) (g := (mkF m 13 #[.val (.int p0), .val (.int p1), .val (.int p2), .val (.int p3), .val (.int p4), .val (.int xa), .val (.int ya), .unset, .unset, .unset, .unset, .unset, .unset, .unset, .unset, .unset, .unset] [(.int p2)])) rfl (hb hby at_13) _ ?_
    refine XS.iand X0.here hx rfl (hb hby at_15) rfl ?_
    exact Steps.refl _)
  obtain ⟨za, hza⟩ : ∃ zq : Int32, (p2 &&& (1048575 : Int32)) = zq := ⟨_, rfl⟩
  rw [hza] at K3
  have K4 : Steps p.tables e below _ (s₁.setTop (mkF m 22 #[.val (.int p0), .val (.int p1), .val (.int p2), .val (.int p3), .val (.int p4), .val (.int xa), .val (.int ya), .val (.int za), .unset, .unset, .unset, .unset, .unset, .unset, .unset, .unset, .unset] [(.int (p3 &&& (1048575 : Int32)))])) := K3.trans (by
    refine XS.istore X0.here hx rfl (hb hby at_16) rfl (l' := #[.val (.int p0), .val (.int p1), .val (.int p2), .val (.int p3), .val (.int p4), .val (.int xa), .val (.int ya), .val (.int za), .unset, .unset, .unset, .unset, .unset, .unset, .unset, .unset, .unset]) rfl ?_
    refine XS.iloadN X0.here hx rfl (hb hby at_18) rfl ?_
    refine X0.ldcInt hx hown (mvT hZ (hw _ (List.mem_of_getElem? (i := 0) rfl))) (g := (mkF m 19 #[.val (.int p0), .val (.int p1), .val (.int p2), .val (.int p3), .val (.int p4), .val (.int xa), .val (.int ya), .val (.int za), .unset, .unset, .unset, .unset, .unset, .unset, .unset, .unset, .unset] [(.int p3)])) rfl (hb hby at_19) _ ?_
    refine XS.iand X0.here hx rfl (hb hby at_21) rfl ?_
    exact Steps.refl _)
  obtain ⟨wa, hwa⟩ : ∃ zq : Int32, (p3 &&& (1048575 : Int32)) = zq := ⟨_, rfl⟩
  rw [hwa] at K4
  have K5 : Steps p.tables e below _ (s₁.setTop (mkF m 30 #[.val (.int p0), .val (.int p1), .val (.int p2), .val (.int p3), .val (.int p4), .val (.int xa), .val (.int ya), .val (.int za), .val (.int wa), .val (.int (p4 &&& (3 : Int32))), .unset, .unset, .unset, .unset, .unset, .unset, .unset] [])) := K4.trans (by
    refine XS.istore X0.here hx rfl (hb hby at_22) rfl (l' := #[.val (.int p0), .val (.int p1), .val (.int p2), .val (.int p3), .val (.int p4), .val (.int xa), .val (.int ya), .val (.int za), .val (.int wa), .unset, .unset, .unset, .unset, .unset, .unset, .unset, .unset]) rfl ?_
    refine XS.iload X0.here hx rfl (hb hby at_24) rfl ?_
    refine XS.iconst X0.here hx rfl (hb hby at_26) ?_
    refine XS.iand X0.here hx rfl (hb hby at_27) rfl ?_
    refine XS.istore X0.here hx rfl (hb hby at_28) rfl (l' := #[.val (.int p0), .val (.int p1), .val (.int p2), .val (.int p3), .val (.int p4), .val (.int xa), .val (.int ya), .val (.int za), .val (.int wa), .val (.int (p4 &&& (3 : Int32))), .unset, .unset, .unset, .unset, .unset, .unset, .unset]) rfl ?_
    show Steps p.tables e below (s₁.setTop (mkF m 30 #[.val (.int p0), .val (.int p1), .val (.int p2), .val (.int p3), .val (.int p4), .val (.int xa), .val (.int ya), .val (.int za), .val (.int wa), .val (.int (p4 &&& (3 : Int32))), .unset, .unset, .unset, .unset, .unset, .unset, .unset] [])) _
    exact Steps.refl _)
  obtain ⟨T6, h6, X6, e6, E6, A6, D6, -, st6⟩ := newO X0 hx hZ hown (hw _ (List.mem_of_getElem? (i := 1) rfl)) (hw _ (List.mem_of_getElem? (i := 2) rfl)) (hw _ (List.mem_of_getElem? (i := 3) rfl)) e0 (g := (mkF m 30 #[.val (.int p0), .val (.int p1), .val (.int p2), .val (.int p3), .val (.int p4), .val (.int xa), .val (.int ya), .val (.int za), .val (.int wa), .val (.int (p4 &&& (3 : Int32))), .unset, .unset, .unset, .unset, .unset, .unset, .unset] [])) rfl (hb hby at_30) (by decide) (by decide)
  obtain ⟨b6, g6⟩ : ∃ z, z = h0.size := ⟨_, rfl⟩
  rw [← g6] at A6 D6 st6
  have ge_b6 : n0 ≤ b6 := Nat.le_trans Z0 (Nat.le_of_eq g6.symm)
  have K7 : Steps p.tables e below _ (T6.setTop (mkF m 33 #[.val (.int p0), .val (.int p1), .val (.int p2), .val (.int p3), .val (.int p4), .val (.int xa), .val (.int ya), .val (.int za), .val (.int wa), .val (.int (p4 &&& (3 : Int32))), .unset, .unset, .unset, .unset, .unset, .unset, .unset] [(.ref b6)])) := K5.trans (st6 _ (Steps.refl _))
  have F6_bits : Fld Z h6 b6 "com/example/futures_from_states/futuresfromstates/model/StateSet" "bits" "[J" .null := D6 (Or.inl (hw _ (List.mem_of_getElem? (i := 12) rfl))) (ty := (.array .long)) (by decide)
  have F6_members : Fld Z h6 b6 "com/example/futures_from_states/futuresfromstates/model/StateSet" "members" "[I" .null := D6 (Or.inl (hw _ (List.mem_of_getElem? (i := 15) rfl))) (ty := (.array .int)) (by decide)
  have F6_size : Fld Z h6 b6 "com/example/futures_from_states/futuresfromstates/model/StateSet" "size" "I" (.int (0 : Int32)) := D6 (Or.inl (hw _ (List.mem_of_getElem? (i := 22) rfl))) (ty := .int) (by decide)
  have K8 : Steps p.tables e below _ (T6.setTop (mkF m 34 #[.val (.int p0), .val (.int p1), .val (.int p2), .val (.int p3), .val (.int p4), .val (.int xa), .val (.int ya), .val (.int za), .val (.int wa), .val (.int (p4 &&& (3 : Int32))), .unset, .unset, .unset, .unset, .unset, .unset, .unset] [(.ref b6), (.ref b6)])) := K7.trans (by
    refine XS.dup X6.here hx rfl (hb hby at_33) rfl rfl ?_
    exact Steps.refl _)
  have Z_9 : n0 ≤ h6.size := (Nat.le_trans Z0 E6.1)
  obtain ⟨_, _, ⟨T10, L10, k10, n10⟩, -, X10, ⟨Lc10, hQ10, l10, y10, z10⟩, st10⟩ := X6.specialBack hx (y := (⟨"com/example/futures_from_states/futuresfromstates/model/StateSet", "<init>", "()V"⟩ : MethodName)) rfl hown (mvT hZ (hw _ (List.mem_of_getElem? (i := 4) rfl))) (mvT hZ (hw _ (List.mem_of_getElem? (i := 5) rfl))) (mvT hZ (hw _ (List.mem_of_getElem? (i := 6) rfl))) (by decide) (backOf (W := 1) (rm1 l Z a0 hw [] b6 (0 : Int32) .null .null h6 n0 Z_9 A6 F6_size ge_b6 F6_bits F6_members) hZ (hw _ (List.mem_of_getElem? (i := 6) rfl)) (hw _ (List.mem_of_getElem? (i := 3) rfl)) (by exact Nat.le_of_ble_eq_true rfl) (by exact Nat.le_of_ble_eq_true rfl)) (g := (mkF m 34 #[.val (.int p0), .val (.int p1), .val (.int p2), .val (.int p3), .val (.int p4), .val (.int xa), .val (.int ya), .val (.int za), .val (.int wa), .val (.int (p4 &&& (3 : Int32))), .unset, .unset, .unset, .unset, .unset, .unset, .unset] [(.ref b6), (.ref b6)])) rfl (by rw [hml]; rfl) K8 (a := b6) (argsL := []) (rest := [(.ref b6)]) (lenOf pd_2 rfl) rfl (by show 2 * 0 + _ ≤ _; exact Nat.le_of_eq rfl) (hb hby at_34) (fun _ _ => ⟨rfl, e6, (by exact Nat.le_of_ble_eq_true rfl), (by exact Nat.le_of_ble_eq_true rfl)⟩)
  dsimp only [Pt.U, Pt.locs, Pt.cells, Pt.slots] at X10 l10 y10 z10 st10 hQ10
  subst l10 y10 z10
  obtain ⟨b10_b5, b10_b12, k5_10, k12_10, rfl, N10, Kp10, Q10_0, Q10_1, Q10_2, Q10_3, Q10_4, Q10_5, Q10_6, Q10_7, sz10_b5, sz10_b12, ne10_10⟩ := hQ10
  have ne_b6_b10_b5 : b6 ≠ b10_b5 := Nat.ne_of_lt (Nat.lt_of_lt_of_le A6.lt sz10_b5)
  have ge_b10_b5 : n0 ≤ b10_b5 := Nat.le_trans Z_9 sz10_b5
  have ne_b6_b10_b12 : b6 ≠ b10_b12 := Nat.ne_of_lt (Nat.lt_of_lt_of_le A6.lt sz10_b12)
  have ge_b10_b12 : n0 ≤ b10_b12 := Nat.le_trans Z_9 sz10_b12
  have N10' := Fr.app N0 N10
  obtain ⟨Lg10, Xg10, Ng10⟩ : ∃ Lg, Stand p l e room_1 s m #[(.int p0), (.int p1), (.int p2), (.int p3), (.int p4)] below meth c T10 Lg 3 20 ∧ Fr n0 Lg := ⟨_, X10, N10'⟩
  have K11 : Steps p.tables e below _ (T10.setTop (mkF m 37 #[.val (.int p0), .val (.int p1), .val (.int p2), .val (.int p3), .val (.int p4), .val (.int xa), .val (.int ya), .val (.int za), .val (.int wa), .val (.int (p4 &&& (3 : Int32))), .unset, .unset, .unset, .unset, .unset, .unset, .unset] [(.ref b6)])) := st10
  have hI0 := own_inv0
  have X10g := own_grow (slots' := 40 + 2 * (1 : Int32).toNatClampNeg) Xg10 (Nat.le_refl _) (by decide)
  have K12 : Steps p.tables e below _ (T10.setTop (mkF m 39 #[.val (.int p0), .val (.int p1), .val (.int p2), .val (.int p3), .val (.int p4), .val (.int xa), .val (.int ya), .val (.int za), .val (.int wa), .val (.int (p4 &&& (3 : Int32))), .val (.ref b6), .unset, .unset, .unset, .unset, .unset, .unset] [])) := K11.trans (by
    refine XS.astore X10g.here hx rfl (hb hby at_37) rfl rfl (l' := #[.val (.int p0), .val (.int p1), .val (.int p2), .val (.int p3), .val (.int p4), .val (.int xa), .val (.int ya), .val (.int za), .val (.int wa), .val (.int (p4 &&& (3 : Int32))), .val (.ref b6), .unset, .unset, .unset, .unset, .unset, .unset]) rfl ?_
    exact Steps.refl _)
  rcases own_and3 p4 with hn | hn | hn | hn
  · rw [hn] at K12
    have K13 : Steps p.tables e below _ (T10.setTop (mkF m 83 #[.val (.int p0), .val (.int p1), .val (.int p2), .val (.int p3), .val (.int p4), .val (.int xa), .val (.int ya), .val (.int za), .val (.int wa), .val (.int (0 : Int32)), .val (.ref b6), .unset, .unset, .unset, .unset, .unset, .unset] [(.ref b6)])) := K12.trans (by
      refine XS.iload X10g.here hx rfl (hb hby at_39) rfl ?_
      refine XS.iconst X10g.here hx rfl (hb hby at_41) ?_
      refine XS.icmpYes X10g.here hx rfl (pc0 := 42) (pc' := 53) rfl (hb hby at_42) rfl (tlt (by decide : (0 : Int32) < (1 : Int32))).1 (by decide) (by decide) ?_
      refine XS.iload X10g.here hx rfl (hb hby at_53) rfl ?_
      refine XS.iconst X10g.here hx rfl (hb hby at_55) ?_
      show Steps p.tables e below (T10.setTop (mkF m 56 #[.val (.int p0), .val (.int p1), .val (.int p2), .val (.int p3), .val (.int p4), .val (.int xa), .val (.int ya), .val (.int za), .val (.int wa), .val (.int (0 : Int32)), .val (.ref b6), .unset, .unset, .unset, .unset, .unset, .unset] [(.int (2 : Int32)), (.int (0 : Int32))])) _
      refine XS.icmpYes X10g.here hx rfl (pc0 := 56) (pc' := 67) rfl (hb hby at_56) rfl (tlt (by decide : (0 : Int32) < (2 : Int32))).1 (by decide) (by decide) ?_
      refine XS.iload X10g.here hx rfl (hb hby at_67) rfl ?_
      refine XS.iconst X10g.here hx rfl (hb hby at_69) ?_
      refine XS.icmpYes X10g.here hx rfl (pc0 := 70) (pc' := 81) rfl (hb hby at_70) rfl (tlt (by decide : (0 : Int32) < (3 : Int32))).1 (by decide) (by decide) ?_
      refine XS.aload X10g.here hx rfl (hb hby at_81) rfl rfl ?_
      show Steps p.tables e below (T10.setTop (mkF m 83 #[.val (.int p0), .val (.int p1), .val (.int p2), .val (.int p3), .val (.int p4), .val (.int xa), .val (.int ya), .val (.int za), .val (.int wa), .val (.int (0 : Int32)), .val (.ref b6), .unset, .unset, .unset, .unset, .unset, .unset] [(.ref b6)])) _
      exact Steps.refl _)
    have Z_14 : n0 ≤ T10.heap.size := (Nat.le_trans Z_9 Kp10.1)
    obtain ⟨cq15, kq15, q15a, q15b, q15c⟩ := isOf hZ rfl Q10_0
    obtain ⟨_, _, ⟨T15, L15, k15, n15⟩, -, X15, ⟨Lc15, hQ15, l15, y15, z15⟩, st15⟩ := X10g.virtualBack hx (y := (⟨"com/example/futures_from_states/futuresfromstates/model/StateSet", "clear", "()V"⟩ : MethodName)) (z := (⟨"com/example/futures_from_states/futuresfromstates/model/StateSet", "clear", "()V"⟩ : MethodName)) hown (mvT hZ (hw _ (List.mem_of_getElem? (i := 16) rfl))) (mvT hZ (hw _ (List.mem_of_getElem? (i := 17) rfl))) (notFace_of_selects (args := #[]) (mvT hZ (hw _ (List.mem_of_getElem? (i := 19) rfl)))) (mvT hZ (hw _ (List.mem_of_getElem? (i := 19) rfl))) (mvT hZ (hw _ (List.mem_of_getElem? (i := 18) rfl))) (by decide) (backOf (W := 0) (rm3 l Z a0 hw [] b6 b10_b5 b10_b12 k5_10 k12_10 (1 : Int32) ([(.long (0 : Int64))]) ([(.int (0 : Int32)), (.int (0 : Int32)), (.int (0 : Int32)), (.int (0 : Int32)), (.int (0 : Int32)), (.int (0 : Int32)), (.int (0 : Int32)), (.int (0 : Int32)), (.int (0 : Int32)), (.int (0 : Int32)), (.int (0 : Int32)), (.int (0 : Int32)), (.int (0 : Int32)), (.int (0 : Int32)), (.int (0 : Int32)), (.int (0 : Int32))]) (0 : Int32) ([]) T10.heap n0 Z_14 Q10_0 Q10_4 Q10_7 Q10_1 Q10_2 Q10_5 ne_b6_b10_b5 ne_b6_b10_b12 ne10_10 ge_b6 ge_b10_b5 (hI0) (own_e0c)) hZ (hw _ (List.mem_of_getElem? (i := 20) rfl)) (hw _ (List.mem_of_getElem? (i := 3) rfl)) (by exact Nat.le_of_ble_eq_true rfl) (by exact Nat.le_of_ble_eq_true rfl)) q15a q15c (g := (mkF m 83 #[.val (.int p0), .val (.int p1), .val (.int p2), .val (.int p3), .val (.int p4), .val (.int xa), .val (.int ya), .val (.int za), .val (.int wa), .val (.int (0 : Int32)), .val (.ref b6), .unset, .unset, .unset, .unset, .unset, .unset] [(.ref b6)])) rfl (by rw [hml]; rfl) K13 (argsL := []) (rest := []) (lenOf pd_2 rfl) rfl (by show 2 * 0 + _ ≤ _; exact Nat.le_of_eq rfl) (hb hby at_83) (fun _ _ => ⟨rfl, rfl, (by exact Nat.le_of_ble_eq_true rfl), (own_fin0 hI0)⟩)
    dsimp only [Pt.U, Pt.locs, Pt.cells, Pt.slots] at X15 l15 y15 z15 st15 hQ15
    subst l15 y15 z15
    obtain ⟨vs2_15, rfl, N15, Kp15, Q15_0, Q15_1, Q15_2, Q15_3, Q15_4, eq15_5⟩ := hQ15
    have N15' := Fr.app Ng10 N15
    obtain ⟨Lg15, Xg15, Ng15⟩ : ∃ Lg, Stand p l e room_1 s m #[(.int p0), (.int p1), (.int p2), (.int p3), (.int p4)] below meth c T15 Lg 3 (40 + 2 * (1 : Int32).toNatClampNeg) ∧ Fr n0 Lg := ⟨_, X15, N15'⟩
    have K16 : Steps p.tables e below _ (T15.setTop (mkF m 86 #[.val (.int p0), .val (.int p1), .val (.int p2), .val (.int p3), .val (.int p4), .val (.int xa), .val (.int ya), .val (.int za), .val (.int wa), .val (.int (0 : Int32)), .val (.ref b6), .unset, .unset, .unset, .unset, .unset, .unset] [])) := st15
    have K17 : Steps p.tables e below _ (T15.setTop (mkF m 88 #[.val (.int p0), .val (.int p1), .val (.int p2), .val (.int p3), .val (.int p4), .val (.int xa), .val (.int ya), .val (.int za), .val (.int wa), .val (.int (0 : Int32)), .val (.ref b6), .unset, .unset, .unset, .unset, .unset, .unset] [(.ref b6)])) := K16.trans (by
      refine XS.aload Xg15.here hx rfl (hb hby at_86) rfl rfl ?_
      exact Steps.refl _)
    have Z_18 : n0 ≤ T15.heap.size := (Nat.le_trans Z_14 Kp15.1)
    obtain ⟨cq19, kq19, q19a, q19b, q19c⟩ := isOf hZ rfl Q15_0
    obtain ⟨_, _, ⟨T19, L19, k19, n19⟩, -, X19, ⟨Lc19, hQ19, l19, y19, z19⟩, st19⟩ := Xg15.virtualBack hx (y := (⟨"com/example/futures_from_states/futuresfromstates/model/StateSet", "size", "()I"⟩ : MethodName)) (z := (⟨"com/example/futures_from_states/futuresfromstates/model/StateSet", "size", "()I"⟩ : MethodName)) hown (mvT hZ (hw _ (List.mem_of_getElem? (i := 23) rfl))) (mvT hZ (hw _ (List.mem_of_getElem? (i := 24) rfl))) (notFace_of_selects (args := #[]) (mvT hZ (hw _ (List.mem_of_getElem? (i := 26) rfl)))) (mvT hZ (hw _ (List.mem_of_getElem? (i := 26) rfl))) (mvT hZ (hw _ (List.mem_of_getElem? (i := 25) rfl))) (by decide) (backOf (W := 0) (rm4 l Z a0 hw [] b6 (0 : Int32) T15.heap n0 Z_18 Q15_3) hZ (hw _ (List.mem_of_getElem? (i := 27) rfl)) (hw _ (List.mem_of_getElem? (i := 3) rfl)) (by exact Nat.le_of_ble_eq_true rfl) (by exact Nat.le_of_ble_eq_true rfl)) q19a q19c (g := (mkF m 88 #[.val (.int p0), .val (.int p1), .val (.int p2), .val (.int p3), .val (.int p4), .val (.int xa), .val (.int ya), .val (.int za), .val (.int wa), .val (.int (0 : Int32)), .val (.ref b6), .unset, .unset, .unset, .unset, .unset, .unset] [(.ref b6)])) rfl (by rw [hml]; rfl) K17 (argsL := []) (rest := []) (lenOf pd_3 rfl) rfl (by show 2 * 0 + _ ≤ _; exact Nat.le_of_eq rfl) (hb hby at_88) (fun _ _ => ⟨rfl, rfl, (by exact Nat.le_of_ble_eq_true rfl), (own_fin0 eq15_5)⟩)
    dsimp only [Pt.U, Pt.locs, Pt.cells, Pt.slots] at X19 l19 y19 z19 st19 hQ19
    subst l19 y19 z19
    obtain ⟨rfl, N19, eh19⟩ := hQ19
    have N19' := Fr.app Ng15 N19
    obtain ⟨Lg19, Xg19, Ng19⟩ : ∃ Lg, Stand p l e room_1 s m #[(.int p0), (.int p1), (.int p2), (.int p3), (.int p4)] below meth c T19 Lg 3 (40 + 2 * (1 : Int32).toNatClampNeg) ∧ Fr n0 Lg := ⟨_, X19, N19'⟩
    have K20 : Steps p.tables e below _ (T19.setTop (mkF m 91 #[.val (.int p0), .val (.int p1), .val (.int p2), .val (.int p3), .val (.int p4), .val (.int xa), .val (.int ya), .val (.int za), .val (.int wa), .val (.int (0 : Int32)), .val (.ref b6), .unset, .unset, .unset, .unset, .unset, .unset] [(.int (0 : Int32))])) := st19
    have K21 : Steps p.tables e below _ (T19.setTop (mkF m 105 #[.val (.int p0), .val (.int p1), .val (.int p2), .val (.int p3), .val (.int p4), .val (.int xa), .val (.int ya), .val (.int za), .val (.int wa), .val (.int (0 : Int32)), .val (.ref b6), .val (.int (1 : Int32)), .unset, .unset, .unset, .unset, .unset] [(.int ya), (.ref b6)])) := K20.trans (by
      refine XS.ifNo Xg19.here hx rfl (hb hby at_91) rfl ((if0 _ _).trans (teq (by decide : (0 : Int32) = (0 : Int32))).2) ?_
      refine XS.iconst Xg19.here hx rfl (hb hby at_94) ?_
      refine XS.goto Xg19.here hx rfl (pc0 := 95) (pc' := 99) rfl (hb hby at_95) (by decide) (by decide) ?_
      refine XS.istore Xg19.here hx rfl (hb hby at_99) rfl (l' := #[.val (.int p0), .val (.int p1), .val (.int p2), .val (.int p3), .val (.int p4), .val (.int xa), .val (.int ya), .val (.int za), .val (.int wa), .val (.int (0 : Int32)), .val (.ref b6), .val (.int (1 : Int32)), .unset, .unset, .unset, .unset, .unset]) rfl ?_
      refine XS.aload Xg19.here hx rfl (hb hby at_101) rfl rfl ?_
      show Steps p.tables e below (T19.setTop (mkF m 103 #[.val (.int p0), .val (.int p1), .val (.int p2), .val (.int p3), .val (.int p4), .val (.int xa), .val (.int ya), .val (.int za), .val (.int wa), .val (.int (0 : Int32)), .val (.ref b6), .val (.int (1 : Int32)), .unset, .unset, .unset, .unset, .unset] [(.ref b6)])) _
      refine XS.iload Xg19.here hx rfl (hb hby at_103) rfl ?_
      exact Steps.refl _)
    have V_22 : Arv Z T15.heap b10_b12 k12_10 .int (16 : Int32) [(.int (0 : Int32)), (.int (0 : Int32)), (.int (0 : Int32)), (.int (0 : Int32)), (.int (0 : Int32)), (.int (0 : Int32)), (.int (0 : Int32)), (.int (0 : Int32)), (.int (0 : Int32)), (.int (0 : Int32)), (.int (0 : Int32)), (.int (0 : Int32)), (.int (0 : Int32)), (.int (0 : Int32)), (.int (0 : Int32)), (.int (0 : Int32))] (.int (0 : Int32)) := (Q10_5.keep Kp15 (ninS (Ne.symm ne_b6_b10_b12) (ninS (Ne.symm ne10_10) nin0)))
    obtain ⟨cq23, kq23, q23a, q23b, q23c⟩ := isOf hZ eh19 Q15_0
    obtain ⟨_, _, ⟨T23, L23, k23, n23⟩, -, X23, ⟨Lc23, hQ23, l23, y23, z23⟩, st23⟩ := Xg19.virtualBack hx (y := (⟨"com/example/futures_from_states/futuresfromstates/model/StateSet", "add", "(I)Z"⟩ : MethodName)) (z := (⟨"com/example/futures_from_states/futuresfromstates/model/StateSet", "add", "(I)Z"⟩ : MethodName)) hown (mvT hZ (hw _ (List.mem_of_getElem? (i := 28) rfl))) (mvT hZ (hw _ (List.mem_of_getElem? (i := 29) rfl))) (notFace_of_selects (args := #[]) (mvT hZ (hw _ (List.mem_of_getElem? (i := 31) rfl)))) (mvT hZ (hw _ (List.mem_of_getElem? (i := 31) rfl))) (mvT hZ (hw _ (List.mem_of_getElem? (i := 30) rfl))) (by decide) (backOf (W := 0) (rm5 l Z a0 hw [] b6 ya b10_b5 b10_b12 k5_10 k12_10 (1 : Int32) vs2_15 ([(.int (0 : Int32)), (.int (0 : Int32)), (.int (0 : Int32)), (.int (0 : Int32)), (.int (0 : Int32)), (.int (0 : Int32)), (.int (0 : Int32)), (.int (0 : Int32)), (.int (0 : Int32)), (.int (0 : Int32)), (.int (0 : Int32)), (.int (0 : Int32)), (.int (0 : Int32)), (.int (0 : Int32)), (.int (0 : Int32)), (.int (0 : Int32))]) (0 : Int32) ([]) T15.heap n0 Z_18 Q15_0 Q15_1 Q15_2 Q15_3 Q15_4 V_22 ne_b6_b10_b5 ne_b6_b10_b12 ne10_10 ge_b6 ge_b10_b5 ge_b10_b12 (eq15_5) (own_okp hya) (own_e0)) hZ (hw _ (List.mem_of_getElem? (i := 32) rfl)) (hw _ (List.mem_of_getElem? (i := 3) rfl)) (by exact Nat.le_of_ble_eq_true rfl) (by exact Nat.le_of_ble_eq_true rfl)) q23a q23c (g := (mkF m 105 #[.val (.int p0), .val (.int p1), .val (.int p2), .val (.int p3), .val (.int p4), .val (.int xa), .val (.int ya), .val (.int za), .val (.int wa), .val (.int (0 : Int32)), .val (.ref b6), .val (.int (1 : Int32)), .unset, .unset, .unset, .unset, .unset] [(.int ya), (.ref b6)])) rfl (by rw [hml]; rfl) K21 (argsL := [(.int ya)]) (rest := []) (lenOf pd_4 rfl) rfl (by show 2 * 0 + _ ≤ _; exact Nat.le_of_eq rfl) (hb hby at_105) (fun _ _ => ⟨rfl, eh19, (by exact Nat.le_of_ble_eq_true rfl), (own_room eq15_5 (own_okp hya))⟩)
    dsimp only [Pt.U, Pt.locs, Pt.cells, Pt.slots] at X23 l23 y23 z23 st23 hQ23
    subst l23 y23 z23
    obtain ⟨ba2_23, kb2_23, z2_23, vs2_23, vm2_23, n2_23, rfl, N23, Kp23, Q23_0, Q23_1, Q23_2, Q23_3, Q23_4, Q23_5, ne23_6, ne23_7, ge23_8, eq23_9, eq23_10⟩ := hQ23
    have N23' := Fr.app Ng19 N23
    obtain ⟨Lg23, Xg23, Ng23⟩ : ∃ Lg, Stand p l e room_1 s m #[(.int p0), (.int p1), (.int p2), (.int p3), (.int p4)] below meth c T23 Lg 4 ((40 + 2 * (1 : Int32).toNatClampNeg) + (own_NN (1 : Int32) ya)) ∧ Fr n0 Lg := ⟨_, X23, N23'⟩
    have K25 : Steps p.tables e below _ (T23.setTop (mkF m 108 #[.val (.int p0), .val (.int p1), .val (.int p2), .val (.int p3), .val (.int p4), .val (.int xa), .val (.int ya), .val (.int za), .val (.int wa), .val (.int (0 : Int32)), .val (.ref b6), .val (.int (1 : Int32)), .unset, .unset, .unset, .unset, .unset] [(.int (own_ret ([]) ya))])) := st23
    obtain ⟨r24, hr24⟩ : ∃ zq : Int32, (own_ret ([]) ya) = zq := ⟨_, rfl⟩
    rw [hr24] at K25
    have X23g := own_grow (slots' := 40 + 2 * z2_23.toNatClampNeg) Xg23 (Nat.le_refl _) (own_pot2 eq23_10)
    have hnn23 : own_ln (own_addS [] ya) = n2_23 := own_inv_len eq23_9
    have K26 : Steps p.tables e below _ (T23.setTop (mkF m 114 #[.val (.int p0), .val (.int p1), .val (.int p2), .val (.int p3), .val (.int p4), .val (.int xa), .val (.int ya), .val (.int za), .val (.int wa), .val (.int (0 : Int32)), .val (.ref b6), .val (.int (1 : Int32)), .val (.int r24), .unset, .unset, .unset, .unset] [(.int xa), (.ref b6)])) := K25.trans (by
      refine XS.istore X23g.here hx rfl (hb hby at_108) rfl (l' := #[.val (.int p0), .val (.int p1), .val (.int p2), .val (.int p3), .val (.int p4), .val (.int xa), .val (.int ya), .val (.int za), .val (.int wa), .val (.int (0 : Int32)), .val (.ref b6), .val (.int (1 : Int32)), .val (.int r24), .unset, .unset, .unset, .unset]) rfl ?_
      refine XS.aload X23g.here hx rfl (hb hby at_110) rfl rfl ?_
      refine XS.iload X23g.here hx rfl (hb hby at_112) rfl ?_
      exact Steps.refl _)
    have Z_27 : n0 ≤ T23.heap.size := (Nat.le_trans Z_18 Kp23.1)
    obtain ⟨cq28, kq28, q28a, q28b, q28c⟩ := isOf hZ rfl Q23_0
    obtain ⟨_, _, ⟨T28, L28, k28, n28⟩, -, X28, ⟨Lc28, hQ28, l28, y28, z28⟩, st28⟩ := X23g.virtualBack hx (y := (⟨"com/example/futures_from_states/futuresfromstates/model/StateSet", "add", "(I)Z"⟩ : MethodName)) (z := (⟨"com/example/futures_from_states/futuresfromstates/model/StateSet", "add", "(I)Z"⟩ : MethodName)) hown (mvT hZ (hw _ (List.mem_of_getElem? (i := 28) rfl))) (mvT hZ (hw _ (List.mem_of_getElem? (i := 29) rfl))) (notFace_of_selects (args := #[]) (mvT hZ (hw _ (List.mem_of_getElem? (i := 31) rfl)))) (mvT hZ (hw _ (List.mem_of_getElem? (i := 31) rfl))) (mvT hZ (hw _ (List.mem_of_getElem? (i := 30) rfl))) (by decide) (backOf (W := 0) (rm5 l Z a0 hw [] b6 xa ba2_23 b10_b12 kb2_23 k12_10 z2_23 vs2_23 vm2_23 n2_23 (own_addS [] ya) T23.heap n0 Z_27 Q23_0 Q23_1 Q23_2 Q23_3 Q23_4 Q23_5 ne23_6 ne_b6_b10_b12 ne23_7 ge_b6 ge23_8 ge_b10_b12 (eq23_9) (own_okp hxa) (own_e1 _)) hZ (hw _ (List.mem_of_getElem? (i := 32) rfl)) (hw _ (List.mem_of_getElem? (i := 3) rfl)) (by exact Nat.le_of_ble_eq_true rfl) (by exact Nat.le_of_ble_eq_true rfl)) q28a q28c (g := (mkF m 114 #[.val (.int p0), .val (.int p1), .val (.int p2), .val (.int p3), .val (.int p4), .val (.int xa), .val (.int ya), .val (.int za), .val (.int wa), .val (.int (0 : Int32)), .val (.ref b6), .val (.int (1 : Int32)), .val (.int r24), .unset, .unset, .unset, .unset] [(.int xa), (.ref b6)])) rfl (by rw [hml]; rfl) K26 (argsL := [(.int xa)]) (rest := []) (lenOf pd_4 rfl) rfl (by show 2 * 0 + _ ≤ _; exact Nat.le_of_eq rfl) (hb hby at_114) (fun _ _ => ⟨rfl, rfl, (by exact Nat.le_of_ble_eq_true rfl), (own_room eq23_9 (own_okp hxa))⟩)
    dsimp only [Pt.U, Pt.locs, Pt.cells, Pt.slots] at X28 l28 y28 z28 st28 hQ28
    subst l28 y28 z28
    obtain ⟨ba2_28, kb2_28, z2_28, vs2_28, vm2_28, n2_28, rfl, N28, Kp28, Q28_0, Q28_1, Q28_2, Q28_3, Q28_4, Q28_5, ne28_6, ne28_7, ge28_8, eq28_9, eq28_10⟩ := hQ28
    have N28' := Fr.app Ng23 N28
    obtain ⟨Lg28, Xg28, Ng28⟩ : ∃ Lg, Stand p l e room_1 s m #[(.int p0), (.int p1), (.int p2), (.int p3), (.int p4)] below meth c T28 Lg 5 ((40 + 2 * z2_23.toNatClampNeg) + (own_NN z2_23 xa)) ∧ Fr n0 Lg := ⟨_, X28, N28'⟩
    have K30 : Steps p.tables e below _ (T28.setTop (mkF m 117 #[.val (.int p0), .val (.int p1), .val (.int p2), .val (.int p3), .val (.int p4), .val (.int xa), .val (.int ya), .val (.int za), .val (.int wa), .val (.int (0 : Int32)), .val (.ref b6), .val (.int (1 : Int32)), .val (.int r24), .unset, .unset, .unset, .unset] [(.int (own_ret (own_addS [] ya) xa))])) := st28
    obtain ⟨r29, hr29⟩ : ∃ zq : Int32, (own_ret (own_addS [] ya) xa) = zq := ⟨_, rfl⟩
    rw [hr29] at K30
    have X28g := own_grow (slots' := 40 + 2 * z2_28.toNatClampNeg) Xg28 (Nat.le_refl _) (own_pot2 eq28_10)
    have hnn28 : own_ln (own_addS (own_addS [] ya) xa) = n2_28 := own_inv_len eq28_9
    have K31 : Steps p.tables e below _ (T28.setTop (mkF m 123 #[.val (.int p0), .val (.int p1), .val (.int p2), .val (.int p3), .val (.int p4), .val (.int xa), .val (.int ya), .val (.int za), .val (.int wa), .val (.int (0 : Int32)), .val (.ref b6), .val (.int (1 : Int32)), .val (.int r24), .val (.int r29), .unset, .unset, .unset] [(.int wa), (.ref b6)])) := K30.trans (by
      refine XS.istore X28g.here hx rfl (hb hby at_117) rfl (l' := #[.val (.int p0), .val (.int p1), .val (.int p2), .val (.int p3), .val (.int p4), .val (.int xa), .val (.int ya), .val (.int za), .val (.int wa), .val (.int (0 : Int32)), .val (.ref b6), .val (.int (1 : Int32)), .val (.int r24), .val (.int r29), .unset, .unset, .unset]) rfl ?_
      refine XS.aload X28g.here hx rfl (hb hby at_119) rfl rfl ?_
      refine XS.iload X28g.here hx rfl (hb hby at_121) rfl ?_
      exact Steps.refl _)
    have Z_32 : n0 ≤ T28.heap.size := (Nat.le_trans Z_27 Kp28.1)
    obtain ⟨cq33, kq33, q33a, q33b, q33c⟩ := isOf hZ rfl Q28_0
    obtain ⟨_, _, ⟨T33, L33, k33, n33⟩, -, X33, ⟨Lc33, hQ33, l33, y33, z33⟩, st33⟩ := X28g.virtualBack hx (y := (⟨"com/example/futures_from_states/futuresfromstates/model/StateSet", "add", "(I)Z"⟩ : MethodName)) (z := (⟨"com/example/futures_from_states/futuresfromstates/model/StateSet", "add", "(I)Z"⟩ : MethodName)) hown (mvT hZ (hw _ (List.mem_of_getElem? (i := 28) rfl))) (mvT hZ (hw _ (List.mem_of_getElem? (i := 29) rfl))) (notFace_of_selects (args := #[]) (mvT hZ (hw _ (List.mem_of_getElem? (i := 31) rfl)))) (mvT hZ (hw _ (List.mem_of_getElem? (i := 31) rfl))) (mvT hZ (hw _ (List.mem_of_getElem? (i := 30) rfl))) (by decide) (backOf (W := 0) (rm5 l Z a0 hw [] b6 wa ba2_28 b10_b12 kb2_28 k12_10 z2_28 vs2_28 vm2_28 n2_28 (own_addS (own_addS [] ya) xa) T28.heap n0 Z_32 Q28_0 Q28_1 Q28_2 Q28_3 Q28_4 Q28_5 ne28_6 ne_b6_b10_b12 ne28_7 ge_b6 ge28_8 ge_b10_b12 (eq28_9) (own_okp hwa) (own_e2 _ _)) hZ (hw _ (List.mem_of_getElem? (i := 32) rfl)) (hw _ (List.mem_of_getElem? (i := 3) rfl)) (by exact Nat.le_of_ble_eq_true rfl) (by exact Nat.le_of_ble_eq_true rfl)) q33a q33c (g := (mkF m 123 #[.val (.int p0), .val (.int p1), .val (.int p2), .val (.int p3), .val (.int p4), .val (.int xa), .val (.int ya), .val (.int za), .val (.int wa), .val (.int (0 : Int32)), .val (.ref b6), .val (.int (1 : Int32)), .val (.int r24), .val (.int r29), .unset, .unset, .unset] [(.int wa), (.ref b6)])) rfl (by rw [hml]; rfl) K31 (argsL := [(.int wa)]) (rest := []) (lenOf pd_4 rfl) rfl (by show 2 * 0 + _ ≤ _; exact Nat.le_of_eq rfl) (hb hby at_123) (fun _ _ => ⟨rfl, rfl, (by exact Nat.le_of_ble_eq_true rfl), (own_room eq28_9 (own_okp hwa))⟩)
    dsimp only [Pt.U, Pt.locs, Pt.cells, Pt.slots] at X33 l33 y33 z33 st33 hQ33
    subst l33 y33 z33
    obtain ⟨ba2_33, kb2_33, z2_33, vs2_33, vm2_33, n2_33, rfl, N33, Kp33, Q33_0, Q33_1, Q33_2, Q33_3, Q33_4, Q33_5, ne33_6, ne33_7, ge33_8, eq33_9, eq33_10⟩ := hQ33
    have N33' := Fr.app Ng28 N33
    obtain ⟨Lg33, Xg33, Ng33⟩ : ∃ Lg, Stand p l e room_1 s m #[(.int p0), (.int p1), (.int p2), (.int p3), (.int p4)] below meth c T33 Lg 6 ((40 + 2 * z2_28.toNatClampNeg) + (own_NN z2_28 wa)) ∧ Fr n0 Lg := ⟨_, X33, N33'⟩
    have K35 : Steps p.tables e below _ (T33.setTop (mkF m 126 #[.val (.int p0), .val (.int p1), .val (.int p2), .val (.int p3), .val (.int p4), .val (.int xa), .val (.int ya), .val (.int za), .val (.int wa), .val (.int (0 : Int32)), .val (.ref b6), .val (.int (1 : Int32)), .val (.int r24), .val (.int r29), .unset, .unset, .unset] [(.int (own_ret (own_addS (own_addS [] ya) xa) wa))])) := st33
    obtain ⟨r34, hr34⟩ : ∃ zq : Int32, (own_ret (own_addS (own_addS [] ya) xa) wa) = zq := ⟨_, rfl⟩
    rw [hr34] at K35
    have X33g := own_grow (slots' := 40 + 2 * z2_33.toNatClampNeg) Xg33 (Nat.le_refl _) (own_pot2 eq33_10)
    have hnn33 : own_ln (own_addS (own_addS (own_addS [] ya) xa) wa) = n2_33 := own_inv_len eq33_9
    have K36 : Steps p.tables e below _ (T33.setTop (mkF m 135 #[.val (.int p0), .val (.int p1), .val (.int p2), .val (.int p3), .val (.int p4), .val (.int xa), .val (.int ya), .val (.int za), .val (.int wa), .val (.int (0 : Int32)), .val (.ref b6), .val (.int (1 : Int32)), .val (.int r24), .val (.int r29), .val (.int r34), .unset, .unset] [(.int r24)])) := K35.trans (by
      refine XS.istore X33g.here hx rfl (hb hby at_126) rfl (l' := #[.val (.int p0), .val (.int p1), .val (.int p2), .val (.int p3), .val (.int p4), .val (.int xa), .val (.int ya), .val (.int za), .val (.int wa), .val (.int (0 : Int32)), .val (.ref b6), .val (.int (1 : Int32)), .val (.int r24), .val (.int r29), .val (.int r34), .unset, .unset]) rfl ?_
      refine XS.iload X33g.here hx rfl (hb hby at_128) rfl ?_
      refine XS.ifNo X33g.here hx rfl (hb hby at_130) rfl ((if0 _ _).trans (feq (by decide : ¬ ((1 : Int32) = (0 : Int32)))).1) ?_
      refine XS.iload X33g.here hx rfl (hb hby at_133) rfl ?_
      exact Steps.refl _)
    obtain ⟨v37_0, hv37_0, S37⟩ : ∃ (v37_0 : Int32), (if r24 = (0 : Int32) then (0 : Int32) else (1 : Int32)) = v37_0 ∧ Steps p.tables e below (T33.setTop (mkF m 135 #[.val (.int p0), .val (.int p1), .val (.int p2), .val (.int p3), .val (.int p4), .val (.int xa), .val (.int ya), .val (.int za), .val (.int wa), .val (.int (0 : Int32)), .val (.ref b6), .val (.int (1 : Int32)), .val (.int r24), .val (.int r29), .val (.int r34), .unset, .unset] [(.int r24)])) (T33.setTop (mkF m 143 #[.val (.int p0), .val (.int p1), .val (.int p2), .val (.int p3), .val (.int p4), .val (.int xa), .val (.int ya), .val (.int za), .val (.int wa), .val (.int (0 : Int32)), .val (.ref b6), .val (.int (1 : Int32)), .val (.int r24), .val (.int r29), .val (.int r34), .unset, .unset] [(.int v37_0)])) := by
      have R37 := Steps.refl (tb := p.tables) (e := e) (below := below) (T33.setTop (mkF m 135 #[.val (.int p0), .val (.int p1), .val (.int p2), .val (.int p3), .val (.int p4), .val (.int xa), .val (.int ya), .val (.int za), .val (.int wa), .val (.int (0 : Int32)), .val (.ref b6), .val (.int (1 : Int32)), .val (.int r24), .val (.int r29), .val (.int r34), .unset, .unset] [(.int r24)]))
      by_cases hc135 : r24 = (0 : Int32)
      · have K38 : Steps p.tables e below _ (T33.setTop (mkF m 143 #[.val (.int p0), .val (.int p1), .val (.int p2), .val (.int p3), .val (.int p4), .val (.int xa), .val (.int ya), .val (.int za), .val (.int wa), .val (.int (0 : Int32)), .val (.ref b6), .val (.int (1 : Int32)), .val (.int r24), .val (.int r29), .val (.int r34), .unset, .unset] [(.int (0 : Int32))])) := R37.trans (by
          refine XS.ifYes X33g.here hx rfl (pc0 := 135) (pc' := 142) rfl (hb hby at_135) rfl ((if0 _ _).trans (teq hc135).1) (by decide) (by decide) ?_
          refine XS.iconst X33g.here hx rfl (hb hby at_142) ?_
          exact Steps.refl _)
        exact ⟨(0 : Int32), (by rw [if_pos hc135]), K38⟩
      · have K39 : Steps p.tables e below _ (T33.setTop (mkF m 143 #[.val (.int p0), .val (.int p1), .val (.int p2), .val (.int p3), .val (.int p4), .val (.int xa), .val (.int ya), .val (.int za), .val (.int wa), .val (.int (0 : Int32)), .val (.ref b6), .val (.int (1 : Int32)), .val (.int r24), .val (.int r29), .val (.int r34), .unset, .unset] [(.int (1 : Int32))])) := R37.trans (by
          refine XS.ifNo X33g.here hx rfl (hb hby at_135) rfl ((if0 _ _).trans (feq hc135).1) ?_
          refine XS.iconst X33g.here hx rfl (hb hby at_138) ?_
          refine XS.goto X33g.here hx rfl (pc0 := 139) (pc' := 143) rfl (hb hby at_139) (by decide) (by decide) ?_
          exact Steps.refl _)
        exact ⟨(1 : Int32), (by rw [if_neg hc135]), K39⟩
    have K40 := K36.trans S37
    have K41 : Steps p.tables e below _ (T33.setTop (mkF m 147 #[.val (.int p0), .val (.int p1), .val (.int p2), .val (.int p3), .val (.int p4), .val (.int xa), .val (.int ya), .val (.int za), .val (.int wa), .val (.int (0 : Int32)), .val (.ref b6), .val (.int v37_0), .val (.int r24), .val (.int r29), .val (.int r34), .unset, .unset] [(.int v37_0)])) := K40.trans (by
      refine XS.istore X33g.here hx rfl (hb hby at_143) rfl (l' := #[.val (.int p0), .val (.int p1), .val (.int p2), .val (.int p3), .val (.int p4), .val (.int xa), .val (.int ya), .val (.int za), .val (.int wa), .val (.int (0 : Int32)), .val (.ref b6), .val (.int v37_0), .val (.int r24), .val (.int r29), .val (.int r34), .unset, .unset]) rfl ?_
      refine XS.iload X33g.here hx rfl (hb hby at_145) rfl ?_
      exact Steps.refl _)
    obtain ⟨v42_0, hv42_0, S42⟩ : ∃ (v42_0 : Int32), (if v37_0 = (0 : Int32) then (0 : Int32) else (if r29 = (if xa = ya then (0 : Int32) else (1 : Int32)) then (1 : Int32) else (0 : Int32))) = v42_0 ∧ Steps p.tables e below (T33.setTop (mkF m 147 #[.val (.int p0), .val (.int p1), .val (.int p2), .val (.int p3), .val (.int p4), .val (.int xa), .val (.int ya), .val (.int za), .val (.int wa), .val (.int (0 : Int32)), .val (.ref b6), .val (.int v37_0), .val (.int r24), .val (.int r29), .val (.int r34), .unset, .unset] [(.int v37_0)])) (T33.setTop (mkF m 172 #[.val (.int p0), .val (.int p1), .val (.int p2), .val (.int p3), .val (.int p4), .val (.int xa), .val (.int ya), .val (.int za), .val (.int wa), .val (.int (0 : Int32)), .val (.ref b6), .val (.int v37_0), .val (.int r24), .val (.int r29), .val (.int r34), .unset, .unset] [(.int v42_0)])) := by
      have R42 := Steps.refl (tb := p.tables) (e := e) (below := below) (T33.setTop (mkF m 147 #[.val (.int p0), .val (.int p1), .val (.int p2), .val (.int p3), .val (.int p4), .val (.int xa), .val (.int ya), .val (.int za), .val (.int wa), .val (.int (0 : Int32)), .val (.ref b6), .val (.int v37_0), .val (.int r24), .val (.int r29), .val (.int r34), .unset, .unset] [(.int v37_0)]))
      by_cases hc147 : v37_0 = (0 : Int32)
      · have K43 : Steps p.tables e below _ (T33.setTop (mkF m 172 #[.val (.int p0), .val (.int p1), .val (.int p2), .val (.int p3), .val (.int p4), .val (.int xa), .val (.int ya), .val (.int za), .val (.int wa), .val (.int (0 : Int32)), .val (.ref b6), .val (.int v37_0), .val (.int r24), .val (.int r29), .val (.int r34), .unset, .unset] [(.int (0 : Int32))])) := R42.trans (by
          refine XS.ifYes X33g.here hx rfl (pc0 := 147) (pc' := 171) rfl (hb hby at_147) rfl ((if0 _ _).trans (teq hc147).1) (by decide) (by decide) ?_
          refine XS.iconst X33g.here hx rfl (hb hby at_171) ?_
          exact Steps.refl _)
        exact ⟨(0 : Int32), (by rw [if_pos hc147]), K43⟩
      · have K44 : Steps p.tables e below _ (T33.setTop (mkF m 156 #[.val (.int p0), .val (.int p1), .val (.int p2), .val (.int p3), .val (.int p4), .val (.int xa), .val (.int ya), .val (.int za), .val (.int wa), .val (.int (0 : Int32)), .val (.ref b6), .val (.int v37_0), .val (.int r24), .val (.int r29), .val (.int r34), .unset, .unset] [(.int ya), (.int xa), (.int r29)])) := R42.trans (by
          refine XS.ifNo X33g.here hx rfl (hb hby at_147) rfl ((if0 _ _).trans (feq hc147).1) ?_
          refine XS.iload X33g.here hx rfl (hb hby at_150) rfl ?_
          refine XS.iload X33g.here hx rfl (hb hby at_152) rfl ?_
          refine XS.iload X33g.here hx rfl (hb hby at_154) rfl ?_
          exact Steps.refl _)
        obtain ⟨v45_0, hv45_0, S45⟩ : ∃ (v45_0 : Int32), (if xa = ya then (0 : Int32) else (1 : Int32)) = v45_0 ∧ Steps p.tables e below (T33.setTop (mkF m 156 #[.val (.int p0), .val (.int p1), .val (.int p2), .val (.int p3), .val (.int p4), .val (.int xa), .val (.int ya), .val (.int za), .val (.int wa), .val (.int (0 : Int32)), .val (.ref b6), .val (.int v37_0), .val (.int r24), .val (.int r29), .val (.int r34), .unset, .unset] [(.int ya), (.int xa), (.int r29)])) (T33.setTop (mkF m 164 #[.val (.int p0), .val (.int p1), .val (.int p2), .val (.int p3), .val (.int p4), .val (.int xa), .val (.int ya), .val (.int za), .val (.int wa), .val (.int (0 : Int32)), .val (.ref b6), .val (.int v37_0), .val (.int r24), .val (.int r29), .val (.int r34), .unset, .unset] [(.int v45_0), (.int r29)])) := by
          have R45 := Steps.refl (tb := p.tables) (e := e) (below := below) (T33.setTop (mkF m 156 #[.val (.int p0), .val (.int p1), .val (.int p2), .val (.int p3), .val (.int p4), .val (.int xa), .val (.int ya), .val (.int za), .val (.int wa), .val (.int (0 : Int32)), .val (.ref b6), .val (.int v37_0), .val (.int r24), .val (.int r29), .val (.int r34), .unset, .unset] [(.int ya), (.int xa), (.int r29)]))
          by_cases hc156 : xa = ya
          · have K46 : Steps p.tables e below _ (T33.setTop (mkF m 164 #[.val (.int p0), .val (.int p1), .val (.int p2), .val (.int p3), .val (.int p4), .val (.int xa), .val (.int ya), .val (.int za), .val (.int wa), .val (.int (0 : Int32)), .val (.ref b6), .val (.int v37_0), .val (.int r24), .val (.int r29), .val (.int r34), .unset, .unset] [(.int (0 : Int32)), (.int r29)])) := R45.trans (by
              refine XS.icmpYes X33g.here hx rfl (pc0 := 156) (pc' := 163) rfl (hb hby at_156) rfl (teq hc156).1 (by decide) (by decide) ?_
              refine XS.iconst X33g.here hx rfl (hb hby at_163) ?_
              exact Steps.refl _)
            exact ⟨(0 : Int32), (by rw [if_pos hc156]), K46⟩
          · have K47 : Steps p.tables e below _ (T33.setTop (mkF m 164 #[.val (.int p0), .val (.int p1), .val (.int p2), .val (.int p3), .val (.int p4), .val (.int xa), .val (.int ya), .val (.int za), .val (.int wa), .val (.int (0 : Int32)), .val (.ref b6), .val (.int v37_0), .val (.int r24), .val (.int r29), .val (.int r34), .unset, .unset] [(.int (1 : Int32)), (.int r29)])) := R45.trans (by
              refine XS.icmpNo X33g.here hx rfl (hb hby at_156) rfl (feq hc156).1 ?_
              refine XS.iconst X33g.here hx rfl (hb hby at_159) ?_
              refine XS.goto X33g.here hx rfl (pc0 := 160) (pc' := 164) rfl (hb hby at_160) (by decide) (by decide) ?_
              exact Steps.refl _)
            exact ⟨(1 : Int32), (by rw [if_neg hc156]), K47⟩
        have K48 := K44.trans S45
        by_cases hc164 : r29 = v45_0
        · have K49 : Steps p.tables e below _ (T33.setTop (mkF m 172 #[.val (.int p0), .val (.int p1), .val (.int p2), .val (.int p3), .val (.int p4), .val (.int xa), .val (.int ya), .val (.int za), .val (.int wa), .val (.int (0 : Int32)), .val (.ref b6), .val (.int v37_0), .val (.int r24), .val (.int r29), .val (.int r34), .unset, .unset] [(.int (1 : Int32))])) := K48.trans (by
            refine XS.icmpNo X33g.here hx rfl (hb hby at_164) rfl (teq hc164).2 ?_
            refine XS.iconst X33g.here hx rfl (hb hby at_167) ?_
            refine XS.goto X33g.here hx rfl (pc0 := 168) (pc' := 172) rfl (hb hby at_168) (by decide) (by decide) ?_
            exact Steps.refl _)
          subst hv45_0
          exact ⟨(1 : Int32), (by rw [if_neg hc147, if_pos hc164]), K49⟩
        · have K50 : Steps p.tables e below _ (T33.setTop (mkF m 172 #[.val (.int p0), .val (.int p1), .val (.int p2), .val (.int p3), .val (.int p4), .val (.int xa), .val (.int ya), .val (.int za), .val (.int wa), .val (.int (0 : Int32)), .val (.ref b6), .val (.int v37_0), .val (.int r24), .val (.int r29), .val (.int r34), .unset, .unset] [(.int (0 : Int32))])) := K48.trans (by
            refine XS.icmpYes X33g.here hx rfl (pc0 := 164) (pc' := 171) rfl (hb hby at_164) rfl (feq hc164).2 (by decide) (by decide) ?_
            refine XS.iconst X33g.here hx rfl (hb hby at_171) ?_
            exact Steps.refl _)
          subst hv45_0
          exact ⟨(0 : Int32), (by rw [if_neg hc147, if_neg hc164]), K50⟩
    have K51 := K41.trans S42
    have K52 : Steps p.tables e below _ (T33.setTop (mkF m 178 #[.val (.int p0), .val (.int p1), .val (.int p2), .val (.int p3), .val (.int p4), .val (.int xa), .val (.int ya), .val (.int za), .val (.int wa), .val (.int (0 : Int32)), .val (.ref b6), .val (.int v42_0), .val (.int r24), .val (.int r29), .val (.int r34), .unset, .unset] [(.int xa), (.int wa)])) := K51.trans (by
      refine XS.istore X33g.here hx rfl (hb hby at_172) rfl (l' := #[.val (.int p0), .val (.int p1), .val (.int p2), .val (.int p3), .val (.int p4), .val (.int xa), .val (.int ya), .val (.int za), .val (.int wa), .val (.int (0 : Int32)), .val (.ref b6), .val (.int v42_0), .val (.int r24), .val (.int r29), .val (.int r34), .unset, .unset]) rfl ?_
      refine XS.iload X33g.here hx rfl (hb hby at_174) rfl ?_
      refine XS.iload X33g.here hx rfl (hb hby at_176) rfl ?_
      exact Steps.refl _)
    obtain ⟨v53_0, hv53_0, S53⟩ : ∃ (v53_0 : Int32), (if wa = xa then (0 : Int32) else (if wa = ya then (0 : Int32) else (1 : Int32))) = v53_0 ∧ Steps p.tables e below (T33.setTop (mkF m 178 #[.val (.int p0), .val (.int p1), .val (.int p2), .val (.int p3), .val (.int p4), .val (.int xa), .val (.int ya), .val (.int za), .val (.int wa), .val (.int (0 : Int32)), .val (.ref b6), .val (.int v42_0), .val (.int r24), .val (.int r29), .val (.int r34), .unset, .unset] [(.int xa), (.int wa)])) (T33.setTop (mkF m 193 #[.val (.int p0), .val (.int p1), .val (.int p2), .val (.int p3), .val (.int p4), .val (.int xa), .val (.int ya), .val (.int za), .val (.int wa), .val (.int (0 : Int32)), .val (.ref b6), .val (.int v42_0), .val (.int r24), .val (.int r29), .val (.int r34), .unset, .unset] [(.int v53_0)])) := by
      have R53 := Steps.refl (tb := p.tables) (e := e) (below := below) (T33.setTop (mkF m 178 #[.val (.int p0), .val (.int p1), .val (.int p2), .val (.int p3), .val (.int p4), .val (.int xa), .val (.int ya), .val (.int za), .val (.int wa), .val (.int (0 : Int32)), .val (.ref b6), .val (.int v42_0), .val (.int r24), .val (.int r29), .val (.int r34), .unset, .unset] [(.int xa), (.int wa)]))
      by_cases hc178 : wa = xa
      · have K54 : Steps p.tables e below _ (T33.setTop (mkF m 193 #[.val (.int p0), .val (.int p1), .val (.int p2), .val (.int p3), .val (.int p4), .val (.int xa), .val (.int ya), .val (.int za), .val (.int wa), .val (.int (0 : Int32)), .val (.ref b6), .val (.int v42_0), .val (.int r24), .val (.int r29), .val (.int r34), .unset, .unset] [(.int (0 : Int32))])) := R53.trans (by
          refine XS.icmpYes X33g.here hx rfl (pc0 := 178) (pc' := 192) rfl (hb hby at_178) rfl (teq hc178).1 (by decide) (by decide) ?_
          refine XS.iconst X33g.here hx rfl (hb hby at_192) ?_
          exact Steps.refl _)
        exact ⟨(0 : Int32), (by rw [if_pos hc178]), K54⟩
      · have K55 : Steps p.tables e below _ (T33.setTop (mkF m 185 #[.val (.int p0), .val (.int p1), .val (.int p2), .val (.int p3), .val (.int p4), .val (.int xa), .val (.int ya), .val (.int za), .val (.int wa), .val (.int (0 : Int32)), .val (.ref b6), .val (.int v42_0), .val (.int r24), .val (.int r29), .val (.int r34), .unset, .unset] [(.int ya), (.int wa)])) := R53.trans (by
          refine XS.icmpNo X33g.here hx rfl (hb hby at_178) rfl (feq hc178).1 ?_
          refine XS.iload X33g.here hx rfl (hb hby at_181) rfl ?_
          refine XS.iload X33g.here hx rfl (hb hby at_183) rfl ?_
          exact Steps.refl _)
        by_cases hc185 : wa = ya
        · have K56 : Steps p.tables e below _ (T33.setTop (mkF m 193 #[.val (.int p0), .val (.int p1), .val (.int p2), .val (.int p3), .val (.int p4), .val (.int xa), .val (.int ya), .val (.int za), .val (.int wa), .val (.int (0 : Int32)), .val (.ref b6), .val (.int v42_0), .val (.int r24), .val (.int r29), .val (.int r34), .unset, .unset] [(.int (0 : Int32))])) := K55.trans (by
            refine XS.icmpYes X33g.here hx rfl (pc0 := 185) (pc' := 192) rfl (hb hby at_185) rfl (teq hc185).1 (by decide) (by decide) ?_
            refine XS.iconst X33g.here hx rfl (hb hby at_192) ?_
            exact Steps.refl _)
          exact ⟨(0 : Int32), (by rw [if_neg hc178, if_pos hc185]), K56⟩
        · have K57 : Steps p.tables e below _ (T33.setTop (mkF m 193 #[.val (.int p0), .val (.int p1), .val (.int p2), .val (.int p3), .val (.int p4), .val (.int xa), .val (.int ya), .val (.int za), .val (.int wa), .val (.int (0 : Int32)), .val (.ref b6), .val (.int v42_0), .val (.int r24), .val (.int r29), .val (.int r34), .unset, .unset] [(.int (1 : Int32))])) := K55.trans (by
            refine XS.icmpNo X33g.here hx rfl (hb hby at_185) rfl (feq hc185).1 ?_
            refine XS.iconst X33g.here hx rfl (hb hby at_188) ?_
            refine XS.goto X33g.here hx rfl (pc0 := 189) (pc' := 193) rfl (hb hby at_189) (by decide) (by decide) ?_
            exact Steps.refl _)
          exact ⟨(1 : Int32), (by rw [if_neg hc178, if_neg hc185]), K57⟩
    have K58 := K52.trans S53
    have K59 : Steps p.tables e below _ (T33.setTop (mkF m 197 #[.val (.int p0), .val (.int p1), .val (.int p2), .val (.int p3), .val (.int p4), .val (.int xa), .val (.int ya), .val (.int za), .val (.int wa), .val (.int (0 : Int32)), .val (.ref b6), .val (.int v42_0), .val (.int r24), .val (.int r29), .val (.int r34), .val (.int v53_0), .unset] [(.int v42_0)])) := K58.trans (by
      refine XS.istore X33g.here hx rfl (hb hby at_193) rfl (l' := #[.val (.int p0), .val (.int p1), .val (.int p2), .val (.int p3), .val (.int p4), .val (.int xa), .val (.int ya), .val (.int za), .val (.int wa), .val (.int (0 : Int32)), .val (.ref b6), .val (.int v42_0), .val (.int r24), .val (.int r29), .val (.int r34), .val (.int v53_0), .unset]) rfl ?_
      refine XS.iload X33g.here hx rfl (hb hby at_195) rfl ?_
      exact Steps.refl _)
    obtain ⟨v60_0, hv60_0, S60⟩ : ∃ (v60_0 : Int32), (if v42_0 = (0 : Int32) then (0 : Int32) else (if r34 = v53_0 then (1 : Int32) else (0 : Int32))) = v60_0 ∧ Steps p.tables e below (T33.setTop (mkF m 197 #[.val (.int p0), .val (.int p1), .val (.int p2), .val (.int p3), .val (.int p4), .val (.int xa), .val (.int ya), .val (.int za), .val (.int wa), .val (.int (0 : Int32)), .val (.ref b6), .val (.int v42_0), .val (.int r24), .val (.int r29), .val (.int r34), .val (.int v53_0), .unset] [(.int v42_0)])) (T33.setTop (mkF m 212 #[.val (.int p0), .val (.int p1), .val (.int p2), .val (.int p3), .val (.int p4), .val (.int xa), .val (.int ya), .val (.int za), .val (.int wa), .val (.int (0 : Int32)), .val (.ref b6), .val (.int v42_0), .val (.int r24), .val (.int r29), .val (.int r34), .val (.int v53_0), .unset] [(.int v60_0)])) := by
      have R60 := Steps.refl (tb := p.tables) (e := e) (below := below) (T33.setTop (mkF m 197 #[.val (.int p0), .val (.int p1), .val (.int p2), .val (.int p3), .val (.int p4), .val (.int xa), .val (.int ya), .val (.int za), .val (.int wa), .val (.int (0 : Int32)), .val (.ref b6), .val (.int v42_0), .val (.int r24), .val (.int r29), .val (.int r34), .val (.int v53_0), .unset] [(.int v42_0)]))
      by_cases hc197 : v42_0 = (0 : Int32)
      · have K61 : Steps p.tables e below _ (T33.setTop (mkF m 212 #[.val (.int p0), .val (.int p1), .val (.int p2), .val (.int p3), .val (.int p4), .val (.int xa), .val (.int ya), .val (.int za), .val (.int wa), .val (.int (0 : Int32)), .val (.ref b6), .val (.int v42_0), .val (.int r24), .val (.int r29), .val (.int r34), .val (.int v53_0), .unset] [(.int (0 : Int32))])) := R60.trans (by
          refine XS.ifYes X33g.here hx rfl (pc0 := 197) (pc' := 211) rfl (hb hby at_197) rfl ((if0 _ _).trans (teq hc197).1) (by decide) (by decide) ?_
          refine XS.iconst X33g.here hx rfl (hb hby at_211) ?_
          exact Steps.refl _)
        exact ⟨(0 : Int32), (by rw [if_pos hc197]), K61⟩
      · have K62 : Steps p.tables e below _ (T33.setTop (mkF m 204 #[.val (.int p0), .val (.int p1), .val (.int p2), .val (.int p3), .val (.int p4), .val (.int xa), .val (.int ya), .val (.int za), .val (.int wa), .val (.int (0 : Int32)), .val (.ref b6), .val (.int v42_0), .val (.int r24), .val (.int r29), .val (.int r34), .val (.int v53_0), .unset] [(.int v53_0), (.int r34)])) := R60.trans (by
          refine XS.ifNo X33g.here hx rfl (hb hby at_197) rfl ((if0 _ _).trans (feq hc197).1) ?_
          refine XS.iload X33g.here hx rfl (hb hby at_200) rfl ?_
          refine XS.iload X33g.here hx rfl (hb hby at_202) rfl ?_
          exact Steps.refl _)
        by_cases hc204 : r34 = v53_0
        · have K63 : Steps p.tables e below _ (T33.setTop (mkF m 212 #[.val (.int p0), .val (.int p1), .val (.int p2), .val (.int p3), .val (.int p4), .val (.int xa), .val (.int ya), .val (.int za), .val (.int wa), .val (.int (0 : Int32)), .val (.ref b6), .val (.int v42_0), .val (.int r24), .val (.int r29), .val (.int r34), .val (.int v53_0), .unset] [(.int (1 : Int32))])) := K62.trans (by
            refine XS.icmpNo X33g.here hx rfl (hb hby at_204) rfl (teq hc204).2 ?_
            refine XS.iconst X33g.here hx rfl (hb hby at_207) ?_
            refine XS.goto X33g.here hx rfl (pc0 := 208) (pc' := 212) rfl (hb hby at_208) (by decide) (by decide) ?_
            exact Steps.refl _)
          exact ⟨(1 : Int32), (by rw [if_neg hc197, if_pos hc204]), K63⟩
        · have K64 : Steps p.tables e below _ (T33.setTop (mkF m 212 #[.val (.int p0), .val (.int p1), .val (.int p2), .val (.int p3), .val (.int p4), .val (.int xa), .val (.int ya), .val (.int za), .val (.int wa), .val (.int (0 : Int32)), .val (.ref b6), .val (.int v42_0), .val (.int r24), .val (.int r29), .val (.int r34), .val (.int v53_0), .unset] [(.int (0 : Int32))])) := K62.trans (by
            refine XS.icmpYes X33g.here hx rfl (pc0 := 204) (pc' := 211) rfl (hb hby at_204) rfl (feq hc204).2 (by decide) (by decide) ?_
            refine XS.iconst X33g.here hx rfl (hb hby at_211) ?_
            exact Steps.refl _)
          exact ⟨(0 : Int32), (by rw [if_neg hc197, if_neg hc204]), K64⟩
    have K65 := K59.trans S60
    have K66 : Steps p.tables e below _ (T33.setTop (mkF m 221 #[.val (.int p0), .val (.int p1), .val (.int p2), .val (.int p3), .val (.int p4), .val (.int xa), .val (.int ya), .val (.int za), .val (.int wa), .val (.int (0 : Int32)), .val (.ref b6), .val (.int v60_0), .val (.int r24), .val (.int r29), .val (.int r34), .val (.int v53_0), .val (.int (1 : Int32))] [(.int ya), (.int xa)])) := K65.trans (by
      refine XS.istore X33g.here hx rfl (hb hby at_212) rfl (l' := #[.val (.int p0), .val (.int p1), .val (.int p2), .val (.int p3), .val (.int p4), .val (.int xa), .val (.int ya), .val (.int za), .val (.int wa), .val (.int (0 : Int32)), .val (.ref b6), .val (.int v60_0), .val (.int r24), .val (.int r29), .val (.int r34), .val (.int v53_0), .unset]) rfl ?_
      refine XS.iconst X33g.here hx rfl (hb hby at_214) ?_
      refine XS.istore X33g.here hx rfl (hb hby at_215) rfl (l' := #[.val (.int p0), .val (.int p1), .val (.int p2), .val (.int p3), .val (.int p4), .val (.int xa), .val (.int ya), .val (.int za), .val (.int wa), .val (.int (0 : Int32)), .val (.ref b6), .val (.int v60_0), .val (.int r24), .val (.int r29), .val (.int r34), .val (.int v53_0), .val (.int (1 : Int32))]) rfl ?_
      refine XS.iload X33g.here hx rfl (hb hby at_217) rfl ?_
      refine XS.iload X33g.here hx rfl (hb hby at_219) rfl ?_
      show Steps p.tables e below (T33.setTop (mkF m 221 #[.val (.int p0), .val (.int p1), .val (.int p2), .val (.int p3), .val (.int p4), .val (.int xa), .val (.int ya), .val (.int za), .val (.int wa), .val (.int (0 : Int32)), .val (.ref b6), .val (.int v60_0), .val (.int r24), .val (.int r29), .val (.int r34), .val (.int v53_0), .val (.int (1 : Int32))] [(.int ya), (.int xa)])) _
      exact Steps.refl _)
    obtain ⟨v67_0, hv67_0, S67⟩ : ∃ (v67_0 : Int32), (if xa = ya then (1 : Int32) else (2 : Int32)) = v67_0 ∧ Steps p.tables e below (T33.setTop (mkF m 221 #[.val (.int p0), .val (.int p1), .val (.int p2), .val (.int p3), .val (.int p4), .val (.int xa), .val (.int ya), .val (.int za), .val (.int wa), .val (.int (0 : Int32)), .val (.ref b6), .val (.int v60_0), .val (.int r24), .val (.int r29), .val (.int r34), .val (.int v53_0), .val (.int (1 : Int32))] [(.int ya), (.int xa)])) (T33.setTop (mkF m 230 #[.val (.int p0), .val (.int p1), .val (.int p2), .val (.int p3), .val (.int p4), .val (.int xa), .val (.int ya), .val (.int za), .val (.int wa), .val (.int (0 : Int32)), .val (.ref b6), .val (.int v60_0), .val (.int r24), .val (.int r29), .val (.int r34), .val (.int v53_0), .val (.int v67_0)] [])) := by
      have R67 := Steps.refl (tb := p.tables) (e := e) (below := below) (T33.setTop (mkF m 221 #[.val (.int p0), .val (.int p1), .val (.int p2), .val (.int p3), .val (.int p4), .val (.int xa), .val (.int ya), .val (.int za), .val (.int wa), .val (.int (0 : Int32)), .val (.ref b6), .val (.int v60_0), .val (.int r24), .val (.int r29), .val (.int r34), .val (.int v53_0), .val (.int (1 : Int32))] [(.int ya), (.int xa)]))
      by_cases hc221 : xa = ya
      · have K68 : Steps p.tables e below _ (T33.setTop (mkF m 230 #[.val (.int p0), .val (.int p1), .val (.int p2), .val (.int p3), .val (.int p4), .val (.int xa), .val (.int ya), .val (.int za), .val (.int wa), .val (.int (0 : Int32)), .val (.ref b6), .val (.int v60_0), .val (.int r24), .val (.int r29), .val (.int r34), .val (.int v53_0), .val (.int (1 : Int32))] [])) := R67.trans (by
          refine XS.icmpYes X33g.here hx rfl (pc0 := 221) (pc' := 230) rfl (hb hby at_221) rfl (teq hc221).1 (by decide) (by decide) ?_
          exact Steps.refl _)
        exact ⟨(1 : Int32), (by rw [if_pos hc221]), K68⟩
      · have K69 : Steps p.tables e below _ (T33.setTop (mkF m 230 #[.val (.int p0), .val (.int p1), .val (.int p2), .val (.int p3), .val (.int p4), .val (.int xa), .val (.int ya), .val (.int za), .val (.int wa), .val (.int (0 : Int32)), .val (.ref b6), .val (.int v60_0), .val (.int r24), .val (.int r29), .val (.int r34), .val (.int v53_0), .val (.int (2 : Int32))] [])) := R67.trans (by
          refine XS.icmpNo X33g.here hx rfl (hb hby at_221) rfl (feq hc221).1 ?_
          refine XS.iload X33g.here hx rfl (hb hby at_224) rfl ?_
          refine XS.iconst X33g.here hx rfl (hb hby at_226) ?_
          refine XS.iadd X33g.here hx rfl (hb hby at_227) rfl ?_
          refine XS.istore X33g.here hx rfl (hb hby at_228) rfl (l' := #[.val (.int p0), .val (.int p1), .val (.int p2), .val (.int p3), .val (.int p4), .val (.int xa), .val (.int ya), .val (.int za), .val (.int wa), .val (.int (0 : Int32)), .val (.ref b6), .val (.int v60_0), .val (.int r24), .val (.int r29), .val (.int r34), .val (.int v53_0), .val (.int (2 : Int32))]) rfl ?_
          show Steps p.tables e below (T33.setTop (mkF m 230 #[.val (.int p0), .val (.int p1), .val (.int p2), .val (.int p3), .val (.int p4), .val (.int xa), .val (.int ya), .val (.int za), .val (.int wa), .val (.int (0 : Int32)), .val (.ref b6), .val (.int v60_0), .val (.int r24), .val (.int r29), .val (.int r34), .val (.int v53_0), .val (.int (2 : Int32))] [])) _
          exact Steps.refl _)
        exact ⟨(2 : Int32), (by rw [if_neg hc221]), K69⟩
    have K70 := K66.trans S67
    have K71 : Steps p.tables e below _ (T33.setTop (mkF m 232 #[.val (.int p0), .val (.int p1), .val (.int p2), .val (.int p3), .val (.int p4), .val (.int xa), .val (.int ya), .val (.int za), .val (.int wa), .val (.int (0 : Int32)), .val (.ref b6), .val (.int v60_0), .val (.int r24), .val (.int r29), .val (.int r34), .val (.int v53_0), .val (.int v67_0)] [(.int v53_0)])) := K70.trans (by
      refine XS.iload X33g.here hx rfl (hb hby at_230) rfl ?_
      exact Steps.refl _)
    obtain ⟨v72_0, hv72_0, S72⟩ : ∃ (v72_0 : Int32), (if v53_0 = (0 : Int32) then v67_0 else (v67_0 + (1 : Int32))) = v72_0 ∧ Steps p.tables e below (T33.setTop (mkF m 232 #[.val (.int p0), .val (.int p1), .val (.int p2), .val (.int p3), .val (.int p4), .val (.int xa), .val (.int ya), .val (.int za), .val (.int wa), .val (.int (0 : Int32)), .val (.ref b6), .val (.int v60_0), .val (.int r24), .val (.int r29), .val (.int r34), .val (.int v53_0), .val (.int v67_0)] [(.int v53_0)])) (T33.setTop (mkF m 241 #[.val (.int p0), .val (.int p1), .val (.int p2), .val (.int p3), .val (.int p4), .val (.int xa), .val (.int ya), .val (.int za), .val (.int wa), .val (.int (0 : Int32)), .val (.ref b6), .val (.int v60_0), .val (.int r24), .val (.int r29), .val (.int r34), .val (.int v53_0), .val (.int v72_0)] [])) := by
      have R72 := Steps.refl (tb := p.tables) (e := e) (below := below) (T33.setTop (mkF m 232 #[.val (.int p0), .val (.int p1), .val (.int p2), .val (.int p3), .val (.int p4), .val (.int xa), .val (.int ya), .val (.int za), .val (.int wa), .val (.int (0 : Int32)), .val (.ref b6), .val (.int v60_0), .val (.int r24), .val (.int r29), .val (.int r34), .val (.int v53_0), .val (.int v67_0)] [(.int v53_0)]))
      by_cases hc232 : v53_0 = (0 : Int32)
      · have K73 : Steps p.tables e below _ (T33.setTop (mkF m 241 #[.val (.int p0), .val (.int p1), .val (.int p2), .val (.int p3), .val (.int p4), .val (.int xa), .val (.int ya), .val (.int za), .val (.int wa), .val (.int (0 : Int32)), .val (.ref b6), .val (.int v60_0), .val (.int r24), .val (.int r29), .val (.int r34), .val (.int v53_0), .val (.int v67_0)] [])) := R72.trans (by
          refine XS.ifYes X33g.here hx rfl (pc0 := 232) (pc' := 241) rfl (hb hby at_232) rfl ((if0 _ _).trans (teq hc232).1) (by decide) (by decide) ?_
          exact Steps.refl _)
        exact ⟨v67_0, (by rw [if_pos hc232]), K73⟩
      · have K74 : Steps p.tables e below _ (T33.setTop (mkF m 241 #[.val (.int p0), .val (.int p1), .val (.int p2), .val (.int p3), .val (.int p4), .val (.int xa), .val (.int ya), .val (.int za), .val (.int wa), .val (.int (0 : Int32)), .val (.ref b6), .val (.int v60_0), .val (.int r24), .val (.int r29), .val (.int r34), .val (.int v53_0), .val (.int (v67_0 + (1 : Int32)))] [])) := R72.trans (by
          refine XS.ifNo X33g.here hx rfl (hb hby at_232) rfl ((if0 _ _).trans (feq hc232).1) ?_
          refine XS.iload X33g.here hx rfl (hb hby at_235) rfl ?_
          refine XS.iconst X33g.here hx rfl (hb hby at_237) ?_
          refine XS.iadd X33g.here hx rfl (hb hby at_238) rfl ?_
          refine XS.istore X33g.here hx rfl (hb hby at_239) rfl (l' := #[.val (.int p0), .val (.int p1), .val (.int p2), .val (.int p3), .val (.int p4), .val (.int xa), .val (.int ya), .val (.int za), .val (.int wa), .val (.int (0 : Int32)), .val (.ref b6), .val (.int v60_0), .val (.int r24), .val (.int r29), .val (.int r34), .val (.int v53_0), .val (.int (v67_0 + (1 : Int32)))]) rfl ?_
          show Steps p.tables e below (T33.setTop (mkF m 241 #[.val (.int p0), .val (.int p1), .val (.int p2), .val (.int p3), .val (.int p4), .val (.int xa), .val (.int ya), .val (.int za), .val (.int wa), .val (.int (0 : Int32)), .val (.ref b6), .val (.int v60_0), .val (.int r24), .val (.int r29), .val (.int r34), .val (.int v53_0), .val (.int (v67_0 + (1 : Int32)))] [])) _
          exact Steps.refl _)
        exact ⟨(v67_0 + (1 : Int32)), (by rw [if_neg hc232]), K74⟩
    have K75 := K71.trans S72
    have K76 : Steps p.tables e below _ (T33.setTop (mkF m 243 #[.val (.int p0), .val (.int p1), .val (.int p2), .val (.int p3), .val (.int p4), .val (.int xa), .val (.int ya), .val (.int za), .val (.int wa), .val (.int (0 : Int32)), .val (.ref b6), .val (.int v60_0), .val (.int r24), .val (.int r29), .val (.int r34), .val (.int v53_0), .val (.int v72_0)] [(.int v60_0)])) := K75.trans (by
      refine XS.iload X33g.here hx rfl (hb hby at_241) rfl ?_
      exact Steps.refl _)
    obtain ⟨T77, L77, v77_0, X77, e77, N77, hv77_0, S77⟩ : ∃ (T77 : State) (L77 : List Loc) (v77_0 : Int32), Stand p l e room_1 s m #[(.int p0), (.int p1), (.int p2), (.int p3), (.int p4)] below meth c T77 L77 6 (40 + 2 * z2_33.toNatClampNeg) ∧ T77.heap = T33.heap ∧ Fr n0 L77 ∧ (if v60_0 = (0 : Int32) then (0 : Int32) else (if n2_33 = v72_0 then (1 : Int32) else (0 : Int32))) = v77_0 ∧ Steps p.tables e below (T33.setTop (mkF m 243 #[.val (.int p0), .val (.int p1), .val (.int p2), .val (.int p3), .val (.int p4), .val (.int xa), .val (.int ya), .val (.int za), .val (.int wa), .val (.int (0 : Int32)), .val (.ref b6), .val (.int v60_0), .val (.int r24), .val (.int r29), .val (.int r34), .val (.int v53_0), .val (.int v72_0)] [(.int v60_0)])) (T77.setTop (mkF m 261 #[.val (.int p0), .val (.int p1), .val (.int p2), .val (.int p3), .val (.int p4), .val (.int xa), .val (.int ya), .val (.int za), .val (.int wa), .val (.int (0 : Int32)), .val (.ref b6), .val (.int v60_0), .val (.int r24), .val (.int r29), .val (.int r34), .val (.int v53_0), .val (.int v72_0)] [(.int v77_0)])) := by
      have R77 := Steps.refl (tb := p.tables) (e := e) (below := below) (T33.setTop (mkF m 243 #[.val (.int p0), .val (.int p1), .val (.int p2), .val (.int p3), .val (.int p4), .val (.int xa), .val (.int ya), .val (.int za), .val (.int wa), .val (.int (0 : Int32)), .val (.ref b6), .val (.int v60_0), .val (.int r24), .val (.int r29), .val (.int r34), .val (.int v53_0), .val (.int v72_0)] [(.int v60_0)]))
      by_cases hc243 : v60_0 = (0 : Int32)
      · have K78 : Steps p.tables e below _ (T33.setTop (mkF m 261 #[.val (.int p0), .val (.int p1), .val (.int p2), .val (.int p3), .val (.int p4), .val (.int xa), .val (.int ya), .val (.int za), .val (.int wa), .val (.int (0 : Int32)), .val (.ref b6), .val (.int v60_0), .val (.int r24), .val (.int r29), .val (.int r34), .val (.int v53_0), .val (.int v72_0)] [(.int (0 : Int32))])) := R77.trans (by
          refine XS.ifYes X33g.here hx rfl (pc0 := 243) (pc' := 260) rfl (hb hby at_243) rfl ((if0 _ _).trans (teq hc243).1) (by decide) (by decide) ?_
          refine XS.iconst X33g.here hx rfl (hb hby at_260) ?_
          exact Steps.refl _)
        exact ⟨T33, _, (0 : Int32), X33g, rfl, Ng33, (by rw [if_pos hc243]), K78⟩
      · have K79 : Steps p.tables e below _ (T33.setTop (mkF m 248 #[.val (.int p0), .val (.int p1), .val (.int p2), .val (.int p3), .val (.int p4), .val (.int xa), .val (.int ya), .val (.int za), .val (.int wa), .val (.int (0 : Int32)), .val (.ref b6), .val (.int v60_0), .val (.int r24), .val (.int r29), .val (.int r34), .val (.int v53_0), .val (.int v72_0)] [(.ref b6)])) := R77.trans (by
          refine XS.ifNo X33g.here hx rfl (hb hby at_243) rfl ((if0 _ _).trans (feq hc243).1) ?_
          refine XS.aload X33g.here hx rfl (hb hby at_246) rfl rfl ?_
          exact Steps.refl _)
        have Z_80 : n0 ≤ T33.heap.size := (Nat.le_trans Z_32 Kp33.1)
        obtain ⟨cq81, kq81, q81a, q81b, q81c⟩ := isOf hZ rfl Q33_0
        obtain ⟨_, _, ⟨T81, L81, k81, n81⟩, -, X81, ⟨Lc81, hQ81, l81, y81, z81⟩, st81⟩ := X33g.virtualBack hx (y := (⟨"com/example/futures_from_states/futuresfromstates/model/StateSet", "size", "()I"⟩ : MethodName)) (z := (⟨"com/example/futures_from_states/futuresfromstates/model/StateSet", "size", "()I"⟩ : MethodName)) hown (mvT hZ (hw _ (List.mem_of_getElem? (i := 23) rfl))) (mvT hZ (hw _ (List.mem_of_getElem? (i := 24) rfl))) (notFace_of_selects (args := #[]) (mvT hZ (hw _ (List.mem_of_getElem? (i := 26) rfl)))) (mvT hZ (hw _ (List.mem_of_getElem? (i := 26) rfl))) (mvT hZ (hw _ (List.mem_of_getElem? (i := 25) rfl))) (by decide) (backOf (W := 0) (rm4 l Z a0 hw [] b6 n2_33 T33.heap n0 Z_80 Q33_3) hZ (hw _ (List.mem_of_getElem? (i := 27) rfl)) (hw _ (List.mem_of_getElem? (i := 3) rfl)) (by exact Nat.le_of_ble_eq_true rfl) (by exact Nat.le_of_ble_eq_true rfl)) q81a q81c (g := (mkF m 248 #[.val (.int p0), .val (.int p1), .val (.int p2), .val (.int p3), .val (.int p4), .val (.int xa), .val (.int ya), .val (.int za), .val (.int wa), .val (.int (0 : Int32)), .val (.ref b6), .val (.int v60_0), .val (.int r24), .val (.int r29), .val (.int r34), .val (.int v53_0), .val (.int v72_0)] [(.ref b6)])) rfl (by rw [hml]; rfl) K79 (argsL := []) (rest := []) (lenOf pd_3 rfl) rfl (by show 2 * 0 + _ ≤ _; exact Nat.le_of_eq rfl) (hb hby at_248) (fun _ _ => ⟨rfl, rfl, (by exact Nat.le_of_ble_eq_true rfl), (own_fin0 eq33_9)⟩)
        dsimp only [Pt.U, Pt.locs, Pt.cells, Pt.slots] at X81 l81 y81 z81 st81 hQ81
        subst l81 y81 z81
        obtain ⟨rfl, N81, eh81⟩ := hQ81
        have N81' := Fr.app Ng33 N81
        obtain ⟨Lg81, Xg81, Ng81⟩ : ∃ Lg, Stand p l e room_1 s m #[(.int p0), (.int p1), (.int p2), (.int p3), (.int p4)] below meth c T81 Lg 6 (40 + 2 * z2_33.toNatClampNeg) ∧ Fr n0 Lg := ⟨_, X81, N81'⟩
        have K82 : Steps p.tables e below _ (T81.setTop (mkF m 251 #[.val (.int p0), .val (.int p1), .val (.int p2), .val (.int p3), .val (.int p4), .val (.int xa), .val (.int ya), .val (.int za), .val (.int wa), .val (.int (0 : Int32)), .val (.ref b6), .val (.int v60_0), .val (.int r24), .val (.int r29), .val (.int r34), .val (.int v53_0), .val (.int v72_0)] [(.int n2_33)])) := st81
        have K83 : Steps p.tables e below _ (T81.setTop (mkF m 253 #[.val (.int p0), .val (.int p1), .val (.int p2), .val (.int p3), .val (.int p4), .val (.int xa), .val (.int ya), .val (.int za), .val (.int wa), .val (.int (0 : Int32)), .val (.ref b6), .val (.int v60_0), .val (.int r24), .val (.int r29), .val (.int r34), .val (.int v53_0), .val (.int v72_0)] [(.int v72_0), (.int n2_33)])) := K82.trans (by
          refine XS.iload Xg81.here hx rfl (hb hby at_251) rfl ?_
          exact Steps.refl _)
        by_cases hc253 : n2_33 = v72_0
        · have K84 : Steps p.tables e below _ (T81.setTop (mkF m 261 #[.val (.int p0), .val (.int p1), .val (.int p2), .val (.int p3), .val (.int p4), .val (.int xa), .val (.int ya), .val (.int za), .val (.int wa), .val (.int (0 : Int32)), .val (.ref b6), .val (.int v60_0), .val (.int r24), .val (.int r29), .val (.int r34), .val (.int v53_0), .val (.int v72_0)] [(.int (1 : Int32))])) := K83.trans (by
            refine XS.icmpNo Xg81.here hx rfl (hb hby at_253) rfl (teq hc253).2 ?_
            refine XS.iconst Xg81.here hx rfl (hb hby at_256) ?_
            refine XS.goto Xg81.here hx rfl (pc0 := 257) (pc' := 261) rfl (hb hby at_257) (by decide) (by decide) ?_
            exact Steps.refl _)
          exact ⟨T81, _, (1 : Int32), Xg81, eh81, Ng81, (by rw [if_neg hc243, if_pos hc253]), K84⟩
        · have K85 : Steps p.tables e below _ (T81.setTop (mkF m 261 #[.val (.int p0), .val (.int p1), .val (.int p2), .val (.int p3), .val (.int p4), .val (.int xa), .val (.int ya), .val (.int za), .val (.int wa), .val (.int (0 : Int32)), .val (.ref b6), .val (.int v60_0), .val (.int r24), .val (.int r29), .val (.int r34), .val (.int v53_0), .val (.int v72_0)] [(.int (0 : Int32))])) := K83.trans (by
            refine XS.icmpYes Xg81.here hx rfl (pc0 := 253) (pc' := 260) rfl (hb hby at_253) rfl (feq hc253).2 (by decide) (by decide) ?_
            refine XS.iconst Xg81.here hx rfl (hb hby at_260) ?_
            exact Steps.refl _)
          exact ⟨T81, _, (0 : Int32), Xg81, eh81, Ng81, (by rw [if_neg hc243, if_neg hc253]), K85⟩
    have K86 := K76.trans S77
    have K87 : Steps p.tables e below _ (T77.setTop (mkF m 265 #[.val (.int p0), .val (.int p1), .val (.int p2), .val (.int p3), .val (.int p4), .val (.int xa), .val (.int ya), .val (.int za), .val (.int wa), .val (.int (0 : Int32)), .val (.ref b6), .val (.int v77_0), .val (.int r24), .val (.int r29), .val (.int r34), .val (.int v53_0), .val (.int v72_0)] [(.int v77_0)])) := K86.trans (by
      refine XS.istore X77.here hx rfl (hb hby at_261) rfl (l' := #[.val (.int p0), .val (.int p1), .val (.int p2), .val (.int p3), .val (.int p4), .val (.int xa), .val (.int ya), .val (.int za), .val (.int wa), .val (.int (0 : Int32)), .val (.ref b6), .val (.int v77_0), .val (.int r24), .val (.int r29), .val (.int r34), .val (.int v53_0), .val (.int v72_0)]) rfl ?_
      refine XS.iload X77.here hx rfl (hb hby at_263) rfl ?_
      exact Steps.refl _)
    have hone : (v77_0 &&& 1) = (1 : Int32) := own_law_0 p0 p1 p2 p3 p4 xa ya za wa r24 n2_23 r29 n2_28 r34 n2_33 v37_0 v42_0 v53_0 v60_0 v67_0 v72_0 v77_0 hxa hya hza hwa hr24 hnn23 hr29 hnn28 hr34 hnn33 hv37_0 hv42_0 hv53_0 hv60_0 hv67_0 hv72_0 hv77_0
    obtain ⟨fs, hr, hrun, hended, hW, hsame⟩ := X77.leave (v := some (.int (v77_0 &&& 1))) (fun h => by rw [Bd.returns] at h; cases h)
    exact ⟨_, _, K87.trans (retN X77 hx (t := .boolean) Bd.returns (by simp) (hb hby at_265) hr), hrun, hended, _, _, rfl, ⟨by rw [hone], N77⟩, ⟨_, rfl⟩, hW, hsame.mono (by decide) (own_fin eq33_9)⟩
  · rw [hn] at K12
    have K88 : Steps p.tables e below _ (T10.setTop (mkF m 49 #[.val (.int p0), .val (.int p1), .val (.int p2), .val (.int p3), .val (.int p4), .val (.int xa), .val (.int ya), .val (.int za), .val (.int wa), .val (.int (1 : Int32)), .val (.ref b6), .unset, .unset, .unset, .unset, .unset, .unset] [(.int xa), (.ref b6)])) := K12.trans (by
      refine XS.iload X10g.here hx rfl (hb hby at_39) rfl ?_
      refine XS.iconst X10g.here hx rfl (hb hby at_41) ?_
      refine XS.icmpNo X10g.here hx rfl (hb hby at_42) rfl (flt (by decide : ¬ ((1 : Int32) < (1 : Int32)))).1 ?_
      refine XS.aload X10g.here hx rfl (hb hby at_45) rfl rfl ?_
      refine XS.iload X10g.here hx rfl (hb hby at_47) rfl ?_
      show Steps p.tables e below (T10.setTop (mkF m 49 #[.val (.int p0), .val (.int p1), .val (.int p2), .val (.int p3), .val (.int p4), .val (.int xa), .val (.int ya), .val (.int za), .val (.int wa), .val (.int (1 : Int32)), .val (.ref b6), .unset, .unset, .unset, .unset, .unset, .unset] [(.int xa), (.ref b6)])) _
      exact Steps.refl _)
    have Z_89 : n0 ≤ T10.heap.size := (Nat.le_trans Z_9 Kp10.1)
    obtain ⟨cq90, kq90, q90a, q90b, q90c⟩ := isOf hZ rfl Q10_0
    obtain ⟨_, _, ⟨T90, L90, k90, n90⟩, -, X90, ⟨Lc90, hQ90, l90, y90, z90⟩, st90⟩ := X10g.virtualBack hx (y := (⟨"com/example/futures_from_states/futuresfromstates/model/StateSet", "add", "(I)Z"⟩ : MethodName)) (z := (⟨"com/example/futures_from_states/futuresfromstates/model/StateSet", "add", "(I)Z"⟩ : MethodName)) hown (mvT hZ (hw _ (List.mem_of_getElem? (i := 28) rfl))) (mvT hZ (hw _ (List.mem_of_getElem? (i := 29) rfl))) (notFace_of_selects (args := #[]) (mvT hZ (hw _ (List.mem_of_getElem? (i := 31) rfl)))) (mvT hZ (hw _ (List.mem_of_getElem? (i := 31) rfl))) (mvT hZ (hw _ (List.mem_of_getElem? (i := 30) rfl))) (by decide) (backOf (W := 0) (rm5 l Z a0 hw [] b6 xa b10_b5 b10_b12 k5_10 k12_10 (1 : Int32) ([(.long (0 : Int64))]) ([(.int (0 : Int32)), (.int (0 : Int32)), (.int (0 : Int32)), (.int (0 : Int32)), (.int (0 : Int32)), (.int (0 : Int32)), (.int (0 : Int32)), (.int (0 : Int32)), (.int (0 : Int32)), (.int (0 : Int32)), (.int (0 : Int32)), (.int (0 : Int32)), (.int (0 : Int32)), (.int (0 : Int32)), (.int (0 : Int32)), (.int (0 : Int32))]) (0 : Int32) ([]) T10.heap n0 Z_89 Q10_0 Q10_4 Q10_7 Q10_1 Q10_2 Q10_5 ne_b6_b10_b5 ne_b6_b10_b12 ne10_10 ge_b6 ge_b10_b5 ge_b10_b12 (hI0) (own_okp hxa) (own_e0)) hZ (hw _ (List.mem_of_getElem? (i := 32) rfl)) (hw _ (List.mem_of_getElem? (i := 3) rfl)) (by exact Nat.le_of_ble_eq_true rfl) (by exact Nat.le_of_ble_eq_true rfl)) q90a q90c (g := (mkF m 49 #[.val (.int p0), .val (.int p1), .val (.int p2), .val (.int p3), .val (.int p4), .val (.int xa), .val (.int ya), .val (.int za), .val (.int wa), .val (.int (1 : Int32)), .val (.ref b6), .unset, .unset, .unset, .unset, .unset, .unset] [(.int xa), (.ref b6)])) rfl (by rw [hml]; rfl) K88 (argsL := [(.int xa)]) (rest := []) (lenOf pd_4 rfl) rfl (by show 2 * 0 + _ ≤ _; exact Nat.le_of_eq rfl) (hb hby at_49) (fun _ _ => ⟨rfl, rfl, (by exact Nat.le_of_ble_eq_true rfl), (own_room hI0 (own_okp hxa))⟩)
    dsimp only [Pt.U, Pt.locs, Pt.cells, Pt.slots] at X90 l90 y90 z90 st90 hQ90
    subst l90 y90 z90
    obtain ⟨ba2_90, kb2_90, z2_90, vs2_90, vm2_90, n2_90, rfl, N90, Kp90, Q90_0, Q90_1, Q90_2, Q90_3, Q90_4, Q90_5, ne90_6, ne90_7, ge90_8, eq90_9, eq90_10⟩ := hQ90
    have N90' := Fr.app Ng10 N90
    obtain ⟨Lg90, Xg90, Ng90⟩ : ∃ Lg, Stand p l e room_1 s m #[(.int p0), (.int p1), (.int p2), (.int p3), (.int p4)] below meth c T90 Lg 4 ((40 + 2 * (1 : Int32).toNatClampNeg) + (own_NN (1 : Int32) xa)) ∧ Fr n0 Lg := ⟨_, X90, N90'⟩
    have K92 : Steps p.tables e below _ (T90.setTop (mkF m 52 #[.val (.int p0), .val (.int p1), .val (.int p2), .val (.int p3), .val (.int p4), .val (.int xa), .val (.int ya), .val (.int za), .val (.int wa), .val (.int (1 : Int32)), .val (.ref b6), .unset, .unset, .unset, .unset, .unset, .unset] [(.int (own_ret ([]) xa))])) := st90
    obtain ⟨r91, hr91⟩ : ∃ zq : Int32, (own_ret ([]) xa) = zq := ⟨_, rfl⟩
    rw [hr91] at K92
    have X90g := own_grow (slots' := 40 + 2 * z2_90.toNatClampNeg) Xg90 (Nat.le_refl _) (own_pot2 eq90_10)
    have hnn90 : own_ln (own_addS [] xa) = n2_90 := own_inv_len eq90_9
    have K93 : Steps p.tables e below _ (T90.setTop (mkF m 83 #[.val (.int p0), .val (.int p1), .val (.int p2), .val (.int p3), .val (.int p4), .val (.int xa), .val (.int ya), .val (.int za), .val (.int wa), .val (.int (1 : Int32)), .val (.ref b6), .unset, .unset, .unset, .unset, .unset, .unset] [(.ref b6)])) := K92.trans (by
      refine XS.pop X90g.here hx rfl (hb hby at_52) rfl rfl ?_
      refine XS.iload X90g.here hx rfl (hb hby at_53) rfl ?_
      refine XS.iconst X90g.here hx rfl (hb hby at_55) ?_
      refine XS.icmpYes X90g.here hx rfl (pc0 := 56) (pc' := 67) rfl (hb hby at_56) rfl (tlt (by decide : (1 : Int32) < (2 : Int32))).1 (by decide) (by decide) ?_
      refine XS.iload X90g.here hx rfl (hb hby at_67) rfl ?_
      show Steps p.tables e below (T90.setTop (mkF m 69 #[.val (.int p0), .val (.int p1), .val (.int p2), .val (.int p3), .val (.int p4), .val (.int xa), .val (.int ya), .val (.int za), .val (.int wa), .val (.int (1 : Int32)), .val (.ref b6), .unset, .unset, .unset, .unset, .unset, .unset] [(.int (1 : Int32))])) _
      refine XS.iconst X90g.here hx rfl (hb hby at_69) ?_
      refine XS.icmpYes X90g.here hx rfl (pc0 := 70) (pc' := 81) rfl (hb hby at_70) rfl (tlt (by decide : (1 : Int32) < (3 : Int32))).1 (by decide) (by decide) ?_
      refine XS.aload X90g.here hx rfl (hb hby at_81) rfl rfl ?_
      exact Steps.refl _)
    have Z_94 : n0 ≤ T90.heap.size := (Nat.le_trans Z_89 Kp90.1)
    obtain ⟨cq95, kq95, q95a, q95b, q95c⟩ := isOf hZ rfl Q90_0
    obtain ⟨_, _, ⟨T95, L95, k95, n95⟩, -, X95, ⟨Lc95, hQ95, l95, y95, z95⟩, st95⟩ := X90g.virtualBack hx (y := (⟨"com/example/futures_from_states/futuresfromstates/model/StateSet", "clear", "()V"⟩ : MethodName)) (z := (⟨"com/example/futures_from_states/futuresfromstates/model/StateSet", "clear", "()V"⟩ : MethodName)) hown (mvT hZ (hw _ (List.mem_of_getElem? (i := 16) rfl))) (mvT hZ (hw _ (List.mem_of_getElem? (i := 17) rfl))) (notFace_of_selects (args := #[]) (mvT hZ (hw _ (List.mem_of_getElem? (i := 19) rfl)))) (mvT hZ (hw _ (List.mem_of_getElem? (i := 19) rfl))) (mvT hZ (hw _ (List.mem_of_getElem? (i := 18) rfl))) (by decide) (backOf (W := 0) (rm3 l Z a0 hw [] b6 ba2_90 b10_b12 kb2_90 k12_10 z2_90 vs2_90 vm2_90 n2_90 (own_addS [] xa) T90.heap n0 Z_94 Q90_0 Q90_1 Q90_2 Q90_3 Q90_4 Q90_5 ne90_6 ne_b6_b10_b12 ne90_7 ge_b6 ge90_8 (eq90_9) (own_e1c _)) hZ (hw _ (List.mem_of_getElem? (i := 20) rfl)) (hw _ (List.mem_of_getElem? (i := 3) rfl)) (by exact Nat.le_of_ble_eq_true rfl) (by exact Nat.le_of_ble_eq_true rfl)) q95a q95c (g := (mkF m 83 #[.val (.int p0), .val (.int p1), .val (.int p2), .val (.int p3), .val (.int p4), .val (.int xa), .val (.int ya), .val (.int za), .val (.int wa), .val (.int (1 : Int32)), .val (.ref b6), .unset, .unset, .unset, .unset, .unset, .unset] [(.ref b6)])) rfl (by rw [hml]; rfl) K93 (argsL := []) (rest := []) (lenOf pd_2 rfl) rfl (by show 2 * 0 + _ ≤ _; exact Nat.le_of_eq rfl) (hb hby at_83) (fun _ _ => ⟨rfl, rfl, (by exact Nat.le_of_ble_eq_true rfl), (own_fin0 eq90_9)⟩)
    dsimp only [Pt.U, Pt.locs, Pt.cells, Pt.slots] at X95 l95 y95 z95 st95 hQ95
    subst l95 y95 z95
    obtain ⟨vs2_95, rfl, N95, Kp95, Q95_0, Q95_1, Q95_2, Q95_3, Q95_4, eq95_5⟩ := hQ95
    have N95' := Fr.app Ng90 N95
    obtain ⟨Lg95, Xg95, Ng95⟩ : ∃ Lg, Stand p l e room_1 s m #[(.int p0), (.int p1), (.int p2), (.int p3), (.int p4)] below meth c T95 Lg 4 (40 + 2 * z2_90.toNatClampNeg) ∧ Fr n0 Lg := ⟨_, X95, N95'⟩
    have K96 : Steps p.tables e below _ (T95.setTop (mkF m 86 #[.val (.int p0), .val (.int p1), .val (.int p2), .val (.int p3), .val (.int p4), .val (.int xa), .val (.int ya), .val (.int za), .val (.int wa), .val (.int (1 : Int32)), .val (.ref b6), .unset, .unset, .unset, .unset, .unset, .unset] [])) := st95
    have K97 : Steps p.tables e below _ (T95.setTop (mkF m 88 #[.val (.int p0), .val (.int p1), .val (.int p2), .val (.int p3), .val (.int p4), .val (.int xa), .val (.int ya), .val (.int za), .val (.int wa), .val (.int (1 : Int32)), .val (.ref b6), .unset, .unset, .unset, .unset, .unset, .unset] [(.ref b6)])) := K96.trans (by
      refine XS.aload Xg95.here hx rfl (hb hby at_86) rfl rfl ?_
      exact Steps.refl _)
    have Z_98 : n0 ≤ T95.heap.size := (Nat.le_trans Z_94 Kp95.1)
    obtain ⟨cq99, kq99, q99a, q99b, q99c⟩ := isOf hZ rfl Q95_0
    obtain ⟨_, _, ⟨T99, L99, k99, n99⟩, -, X99, ⟨Lc99, hQ99, l99, y99, z99⟩, st99⟩ := Xg95.virtualBack hx (y := (⟨"com/example/futures_from_states/futuresfromstates/model/StateSet", "size", "()I"⟩ : MethodName)) (z := (⟨"com/example/futures_from_states/futuresfromstates/model/StateSet", "size", "()I"⟩ : MethodName)) hown (mvT hZ (hw _ (List.mem_of_getElem? (i := 23) rfl))) (mvT hZ (hw _ (List.mem_of_getElem? (i := 24) rfl))) (notFace_of_selects (args := #[]) (mvT hZ (hw _ (List.mem_of_getElem? (i := 26) rfl)))) (mvT hZ (hw _ (List.mem_of_getElem? (i := 26) rfl))) (mvT hZ (hw _ (List.mem_of_getElem? (i := 25) rfl))) (by decide) (backOf (W := 0) (rm4 l Z a0 hw [] b6 (0 : Int32) T95.heap n0 Z_98 Q95_3) hZ (hw _ (List.mem_of_getElem? (i := 27) rfl)) (hw _ (List.mem_of_getElem? (i := 3) rfl)) (by exact Nat.le_of_ble_eq_true rfl) (by exact Nat.le_of_ble_eq_true rfl)) q99a q99c (g := (mkF m 88 #[.val (.int p0), .val (.int p1), .val (.int p2), .val (.int p3), .val (.int p4), .val (.int xa), .val (.int ya), .val (.int za), .val (.int wa), .val (.int (1 : Int32)), .val (.ref b6), .unset, .unset, .unset, .unset, .unset, .unset] [(.ref b6)])) rfl (by rw [hml]; rfl) K97 (argsL := []) (rest := []) (lenOf pd_3 rfl) rfl (by show 2 * 0 + _ ≤ _; exact Nat.le_of_eq rfl) (hb hby at_88) (fun _ _ => ⟨rfl, rfl, (by exact Nat.le_of_ble_eq_true rfl), (own_fin0 eq95_5)⟩)
    dsimp only [Pt.U, Pt.locs, Pt.cells, Pt.slots] at X99 l99 y99 z99 st99 hQ99
    subst l99 y99 z99
    obtain ⟨rfl, N99, eh99⟩ := hQ99
    have N99' := Fr.app Ng95 N99
    obtain ⟨Lg99, Xg99, Ng99⟩ : ∃ Lg, Stand p l e room_1 s m #[(.int p0), (.int p1), (.int p2), (.int p3), (.int p4)] below meth c T99 Lg 4 (40 + 2 * z2_90.toNatClampNeg) ∧ Fr n0 Lg := ⟨_, X99, N99'⟩
    have K100 : Steps p.tables e below _ (T99.setTop (mkF m 91 #[.val (.int p0), .val (.int p1), .val (.int p2), .val (.int p3), .val (.int p4), .val (.int xa), .val (.int ya), .val (.int za), .val (.int wa), .val (.int (1 : Int32)), .val (.ref b6), .unset, .unset, .unset, .unset, .unset, .unset] [(.int (0 : Int32))])) := st99
    have K101 : Steps p.tables e below _ (T99.setTop (mkF m 105 #[.val (.int p0), .val (.int p1), .val (.int p2), .val (.int p3), .val (.int p4), .val (.int xa), .val (.int ya), .val (.int za), .val (.int wa), .val (.int (1 : Int32)), .val (.ref b6), .val (.int (1 : Int32)), .unset, .unset, .unset, .unset, .unset] [(.int ya), (.ref b6)])) := K100.trans (by
      refine XS.ifNo Xg99.here hx rfl (hb hby at_91) rfl ((if0 _ _).trans (teq (by decide : (0 : Int32) = (0 : Int32))).2) ?_
      refine XS.iconst Xg99.here hx rfl (hb hby at_94) ?_
      refine XS.goto Xg99.here hx rfl (pc0 := 95) (pc' := 99) rfl (hb hby at_95) (by decide) (by decide) ?_
      refine XS.istore Xg99.here hx rfl (hb hby at_99) rfl (l' := #[.val (.int p0), .val (.int p1), .val (.int p2), .val (.int p3), .val (.int p4), .val (.int xa), .val (.int ya), .val (.int za), .val (.int wa), .val (.int (1 : Int32)), .val (.ref b6), .val (.int (1 : Int32)), .unset, .unset, .unset, .unset, .unset]) rfl ?_
      refine XS.aload Xg99.here hx rfl (hb hby at_101) rfl rfl ?_
      show Steps p.tables e below (T99.setTop (mkF m 103 #[.val (.int p0), .val (.int p1), .val (.int p2), .val (.int p3), .val (.int p4), .val (.int xa), .val (.int ya), .val (.int za), .val (.int wa), .val (.int (1 : Int32)), .val (.ref b6), .val (.int (1 : Int32)), .unset, .unset, .unset, .unset, .unset] [(.ref b6)])) _
      refine XS.iload Xg99.here hx rfl (hb hby at_103) rfl ?_
      exact Steps.refl _)
    have V_102 : Arv Z T95.heap b10_b12 k12_10 .int (16 : Int32) vm2_90 (.int (0 : Int32)) := (Q90_5.keep Kp95 (ninS (Ne.symm ne_b6_b10_b12) (ninS (Ne.symm ne90_7) nin0)))
    obtain ⟨cq103, kq103, q103a, q103b, q103c⟩ := isOf hZ eh99 Q95_0
    obtain ⟨_, _, ⟨T103, L103, k103, n103⟩, -, X103, ⟨Lc103, hQ103, l103, y103, z103⟩, st103⟩ := Xg99.virtualBack hx (y := (⟨"com/example/futures_from_states/futuresfromstates/model/StateSet", "add", "(I)Z"⟩ : MethodName)) (z := (⟨"com/example/futures_from_states/futuresfromstates/model/StateSet", "add", "(I)Z"⟩ : MethodName)) hown (mvT hZ (hw _ (List.mem_of_getElem? (i := 28) rfl))) (mvT hZ (hw _ (List.mem_of_getElem? (i := 29) rfl))) (notFace_of_selects (args := #[]) (mvT hZ (hw _ (List.mem_of_getElem? (i := 31) rfl)))) (mvT hZ (hw _ (List.mem_of_getElem? (i := 31) rfl))) (mvT hZ (hw _ (List.mem_of_getElem? (i := 30) rfl))) (by decide) (backOf (W := 0) (rm5 l Z a0 hw [] b6 ya ba2_90 b10_b12 kb2_90 k12_10 z2_90 vs2_95 vm2_90 (0 : Int32) ([]) T95.heap n0 Z_98 Q95_0 Q95_1 Q95_2 Q95_3 Q95_4 V_102 ne90_6 ne_b6_b10_b12 ne90_7 ge_b6 ge90_8 ge_b10_b12 (eq95_5) (own_okp hya) (own_e0)) hZ (hw _ (List.mem_of_getElem? (i := 32) rfl)) (hw _ (List.mem_of_getElem? (i := 3) rfl)) (by exact Nat.le_of_ble_eq_true rfl) (by exact Nat.le_of_ble_eq_true rfl)) q103a q103c (g := (mkF m 105 #[.val (.int p0), .val (.int p1), .val (.int p2), .val (.int p3), .val (.int p4), .val (.int xa), .val (.int ya), .val (.int za), .val (.int wa), .val (.int (1 : Int32)), .val (.ref b6), .val (.int (1 : Int32)), .unset, .unset, .unset, .unset, .unset] [(.int ya), (.ref b6)])) rfl (by rw [hml]; rfl) K101 (argsL := [(.int ya)]) (rest := []) (lenOf pd_4 rfl) rfl (by show 2 * 0 + _ ≤ _; exact Nat.le_of_eq rfl) (hb hby at_105) (fun _ _ => ⟨rfl, eh99, (by exact Nat.le_of_ble_eq_true rfl), (own_room eq95_5 (own_okp hya))⟩)
    dsimp only [Pt.U, Pt.locs, Pt.cells, Pt.slots] at X103 l103 y103 z103 st103 hQ103
    subst l103 y103 z103
    obtain ⟨ba2_103, kb2_103, z2_103, vs2_103, vm2_103, n2_103, rfl, N103, Kp103, Q103_0, Q103_1, Q103_2, Q103_3, Q103_4, Q103_5, ne103_6, ne103_7, ge103_8, eq103_9, eq103_10⟩ := hQ103
    have N103' := Fr.app Ng99 N103
    obtain ⟨Lg103, Xg103, Ng103⟩ : ∃ Lg, Stand p l e room_1 s m #[(.int p0), (.int p1), (.int p2), (.int p3), (.int p4)] below meth c T103 Lg 5 ((40 + 2 * z2_90.toNatClampNeg) + (own_NN z2_90 ya)) ∧ Fr n0 Lg := ⟨_, X103, N103'⟩
    have K105 : Steps p.tables e below _ (T103.setTop (mkF m 108 #[.val (.int p0), .val (.int p1), .val (.int p2), .val (.int p3), .val (.int p4), .val (.int xa), .val (.int ya), .val (.int za), .val (.int wa), .val (.int (1 : Int32)), .val (.ref b6), .val (.int (1 : Int32)), .unset, .unset, .unset, .unset, .unset] [(.int (own_ret ([]) ya))])) := st103
    obtain ⟨r104, hr104⟩ : ∃ zq : Int32, (own_ret ([]) ya) = zq := ⟨_, rfl⟩
    rw [hr104] at K105
    have X103g := own_grow (slots' := 40 + 2 * z2_103.toNatClampNeg) Xg103 (Nat.le_refl _) (own_pot2 eq103_10)
    have hnn103 : own_ln (own_addS [] ya) = n2_103 := own_inv_len eq103_9
    have K106 : Steps p.tables e below _ (T103.setTop (mkF m 114 #[.val (.int p0), .val (.int p1), .val (.int p2), .val (.int p3), .val (.int p4), .val (.int xa), .val (.int ya), .val (.int za), .val (.int wa), .val (.int (1 : Int32)), .val (.ref b6), .val (.int (1 : Int32)), .val (.int r104), .unset, .unset, .unset, .unset] [(.int xa), (.ref b6)])) := K105.trans (by
      refine XS.istore X103g.here hx rfl (hb hby at_108) rfl (l' := #[.val (.int p0), .val (.int p1), .val (.int p2), .val (.int p3), .val (.int p4), .val (.int xa), .val (.int ya), .val (.int za), .val (.int wa), .val (.int (1 : Int32)), .val (.ref b6), .val (.int (1 : Int32)), .val (.int r104), .unset, .unset, .unset, .unset]) rfl ?_
      refine XS.aload X103g.here hx rfl (hb hby at_110) rfl rfl ?_
      refine XS.iload X103g.here hx rfl (hb hby at_112) rfl ?_
      exact Steps.refl _)
    have Z_107 : n0 ≤ T103.heap.size := (Nat.le_trans Z_98 Kp103.1)
    obtain ⟨cq108, kq108, q108a, q108b, q108c⟩ := isOf hZ rfl Q103_0
    obtain ⟨_, _, ⟨T108, L108, k108, n108⟩, -, X108, ⟨Lc108, hQ108, l108, y108, z108⟩, st108⟩ := X103g.virtualBack hx (y := (⟨"com/example/futures_from_states/futuresfromstates/model/StateSet", "add", "(I)Z"⟩ : MethodName)) (z := (⟨"com/example/futures_from_states/futuresfromstates/model/StateSet", "add", "(I)Z"⟩ : MethodName)) hown (mvT hZ (hw _ (List.mem_of_getElem? (i := 28) rfl))) (mvT hZ (hw _ (List.mem_of_getElem? (i := 29) rfl))) (notFace_of_selects (args := #[]) (mvT hZ (hw _ (List.mem_of_getElem? (i := 31) rfl)))) (mvT hZ (hw _ (List.mem_of_getElem? (i := 31) rfl))) (mvT hZ (hw _ (List.mem_of_getElem? (i := 30) rfl))) (by decide) (backOf (W := 0) (rm5 l Z a0 hw [] b6 xa ba2_103 b10_b12 kb2_103 k12_10 z2_103 vs2_103 vm2_103 n2_103 (own_addS [] ya) T103.heap n0 Z_107 Q103_0 Q103_1 Q103_2 Q103_3 Q103_4 Q103_5 ne103_6 ne_b6_b10_b12 ne103_7 ge_b6 ge103_8 ge_b10_b12 (eq103_9) (own_okp hxa) (own_e1 _)) hZ (hw _ (List.mem_of_getElem? (i := 32) rfl)) (hw _ (List.mem_of_getElem? (i := 3) rfl)) (by exact Nat.le_of_ble_eq_true rfl) (by exact Nat.le_of_ble_eq_true rfl)) q108a q108c (g := (mkF m 114 #[.val (.int p0), .val (.int p1), .val (.int p2), .val (.int p3), .val (.int p4), .val (.int xa), .val (.int ya), .val (.int za), .val (.int wa), .val (.int (1 : Int32)), .val (.ref b6), .val (.int (1 : Int32)), .val (.int r104), .unset, .unset, .unset, .unset] [(.int xa), (.ref b6)])) rfl (by rw [hml]; rfl) K106 (argsL := [(.int xa)]) (rest := []) (lenOf pd_4 rfl) rfl (by show 2 * 0 + _ ≤ _; exact Nat.le_of_eq rfl) (hb hby at_114) (fun _ _ => ⟨rfl, rfl, (by exact Nat.le_of_ble_eq_true rfl), (own_room eq103_9 (own_okp hxa))⟩)
    dsimp only [Pt.U, Pt.locs, Pt.cells, Pt.slots] at X108 l108 y108 z108 st108 hQ108
    subst l108 y108 z108
    obtain ⟨ba2_108, kb2_108, z2_108, vs2_108, vm2_108, n2_108, rfl, N108, Kp108, Q108_0, Q108_1, Q108_2, Q108_3, Q108_4, Q108_5, ne108_6, ne108_7, ge108_8, eq108_9, eq108_10⟩ := hQ108
    have N108' := Fr.app Ng103 N108
    obtain ⟨Lg108, Xg108, Ng108⟩ : ∃ Lg, Stand p l e room_1 s m #[(.int p0), (.int p1), (.int p2), (.int p3), (.int p4)] below meth c T108 Lg 6 ((40 + 2 * z2_103.toNatClampNeg) + (own_NN z2_103 xa)) ∧ Fr n0 Lg := ⟨_, X108, N108'⟩
    have K110 : Steps p.tables e below _ (T108.setTop (mkF m 117 #[.val (.int p0), .val (.int p1), .val (.int p2), .val (.int p3), .val (.int p4), .val (.int xa), .val (.int ya), .val (.int za), .val (.int wa), .val (.int (1 : Int32)), .val (.ref b6), .val (.int (1 : Int32)), .val (.int r104), .unset, .unset, .unset, .unset] [(.int (own_ret (own_addS [] ya) xa))])) := st108
    obtain ⟨r109, hr109⟩ : ∃ zq : Int32, (own_ret (own_addS [] ya) xa) = zq := ⟨_, rfl⟩
    rw [hr109] at K110
    have X108g := own_grow (slots' := 40 + 2 * z2_108.toNatClampNeg) Xg108 (Nat.le_refl _) (own_pot2 eq108_10)
    have hnn108 : own_ln (own_addS (own_addS [] ya) xa) = n2_108 := own_inv_len eq108_9
    have K111 : Steps p.tables e below _ (T108.setTop (mkF m 123 #[.val (.int p0), .val (.int p1), .val (.int p2), .val (.int p3), .val (.int p4), .val (.int xa), .val (.int ya), .val (.int za), .val (.int wa), .val (.int (1 : Int32)), .val (.ref b6), .val (.int (1 : Int32)), .val (.int r104), .val (.int r109), .unset, .unset, .unset] [(.int wa), (.ref b6)])) := K110.trans (by
      refine XS.istore X108g.here hx rfl (hb hby at_117) rfl (l' := #[.val (.int p0), .val (.int p1), .val (.int p2), .val (.int p3), .val (.int p4), .val (.int xa), .val (.int ya), .val (.int za), .val (.int wa), .val (.int (1 : Int32)), .val (.ref b6), .val (.int (1 : Int32)), .val (.int r104), .val (.int r109), .unset, .unset, .unset]) rfl ?_
      refine XS.aload X108g.here hx rfl (hb hby at_119) rfl rfl ?_
      refine XS.iload X108g.here hx rfl (hb hby at_121) rfl ?_
      exact Steps.refl _)
    have Z_112 : n0 ≤ T108.heap.size := (Nat.le_trans Z_107 Kp108.1)
    obtain ⟨cq113, kq113, q113a, q113b, q113c⟩ := isOf hZ rfl Q108_0
    obtain ⟨_, _, ⟨T113, L113, k113, n113⟩, -, X113, ⟨Lc113, hQ113, l113, y113, z113⟩, st113⟩ := X108g.virtualBack hx (y := (⟨"com/example/futures_from_states/futuresfromstates/model/StateSet", "add", "(I)Z"⟩ : MethodName)) (z := (⟨"com/example/futures_from_states/futuresfromstates/model/StateSet", "add", "(I)Z"⟩ : MethodName)) hown (mvT hZ (hw _ (List.mem_of_getElem? (i := 28) rfl))) (mvT hZ (hw _ (List.mem_of_getElem? (i := 29) rfl))) (notFace_of_selects (args := #[]) (mvT hZ (hw _ (List.mem_of_getElem? (i := 31) rfl)))) (mvT hZ (hw _ (List.mem_of_getElem? (i := 31) rfl))) (mvT hZ (hw _ (List.mem_of_getElem? (i := 30) rfl))) (by decide) (backOf (W := 0) (rm5 l Z a0 hw [] b6 wa ba2_108 b10_b12 kb2_108 k12_10 z2_108 vs2_108 vm2_108 n2_108 (own_addS (own_addS [] ya) xa) T108.heap n0 Z_112 Q108_0 Q108_1 Q108_2 Q108_3 Q108_4 Q108_5 ne108_6 ne_b6_b10_b12 ne108_7 ge_b6 ge108_8 ge_b10_b12 (eq108_9) (own_okp hwa) (own_e2 _ _)) hZ (hw _ (List.mem_of_getElem? (i := 32) rfl)) (hw _ (List.mem_of_getElem? (i := 3) rfl)) (by exact Nat.le_of_ble_eq_true rfl) (by exact Nat.le_of_ble_eq_true rfl)) q113a q113c (g := (mkF m 123 #[.val (.int p0), .val (.int p1), .val (.int p2), .val (.int p3), .val (.int p4), .val (.int xa), .val (.int ya), .val (.int za), .val (.int wa), .val (.int (1 : Int32)), .val (.ref b6), .val (.int (1 : Int32)), .val (.int r104), .val (.int r109), .unset, .unset, .unset] [(.int wa), (.ref b6)])) rfl (by rw [hml]; rfl) K111 (argsL := [(.int wa)]) (rest := []) (lenOf pd_4 rfl) rfl (by show 2 * 0 + _ ≤ _; exact Nat.le_of_eq rfl) (hb hby at_123) (fun _ _ => ⟨rfl, rfl, (by exact Nat.le_of_ble_eq_true rfl), (own_room eq108_9 (own_okp hwa))⟩)
    dsimp only [Pt.U, Pt.locs, Pt.cells, Pt.slots] at X113 l113 y113 z113 st113 hQ113
    subst l113 y113 z113
    obtain ⟨ba2_113, kb2_113, z2_113, vs2_113, vm2_113, n2_113, rfl, N113, Kp113, Q113_0, Q113_1, Q113_2, Q113_3, Q113_4, Q113_5, ne113_6, ne113_7, ge113_8, eq113_9, eq113_10⟩ := hQ113
    have N113' := Fr.app Ng108 N113
    obtain ⟨Lg113, Xg113, Ng113⟩ : ∃ Lg, Stand p l e room_1 s m #[(.int p0), (.int p1), (.int p2), (.int p3), (.int p4)] below meth c T113 Lg 7 ((40 + 2 * z2_108.toNatClampNeg) + (own_NN z2_108 wa)) ∧ Fr n0 Lg := ⟨_, X113, N113'⟩
    have K115 : Steps p.tables e below _ (T113.setTop (mkF m 126 #[.val (.int p0), .val (.int p1), .val (.int p2), .val (.int p3), .val (.int p4), .val (.int xa), .val (.int ya), .val (.int za), .val (.int wa), .val (.int (1 : Int32)), .val (.ref b6), .val (.int (1 : Int32)), .val (.int r104), .val (.int r109), .unset, .unset, .unset] [(.int (own_ret (own_addS (own_addS [] ya) xa) wa))])) := st113
    obtain ⟨r114, hr114⟩ : ∃ zq : Int32, (own_ret (own_addS (own_addS [] ya) xa) wa) = zq := ⟨_, rfl⟩
    rw [hr114] at K115
    have X113g := own_grow (slots' := 40 + 2 * z2_113.toNatClampNeg) Xg113 (Nat.le_refl _) (own_pot2 eq113_10)
    have hnn113 : own_ln (own_addS (own_addS (own_addS [] ya) xa) wa) = n2_113 := own_inv_len eq113_9
    have K116 : Steps p.tables e below _ (T113.setTop (mkF m 135 #[.val (.int p0), .val (.int p1), .val (.int p2), .val (.int p3), .val (.int p4), .val (.int xa), .val (.int ya), .val (.int za), .val (.int wa), .val (.int (1 : Int32)), .val (.ref b6), .val (.int (1 : Int32)), .val (.int r104), .val (.int r109), .val (.int r114), .unset, .unset] [(.int r104)])) := K115.trans (by
      refine XS.istore X113g.here hx rfl (hb hby at_126) rfl (l' := #[.val (.int p0), .val (.int p1), .val (.int p2), .val (.int p3), .val (.int p4), .val (.int xa), .val (.int ya), .val (.int za), .val (.int wa), .val (.int (1 : Int32)), .val (.ref b6), .val (.int (1 : Int32)), .val (.int r104), .val (.int r109), .val (.int r114), .unset, .unset]) rfl ?_
      refine XS.iload X113g.here hx rfl (hb hby at_128) rfl ?_
      refine XS.ifNo X113g.here hx rfl (hb hby at_130) rfl ((if0 _ _).trans (feq (by decide : ¬ ((1 : Int32) = (0 : Int32)))).1) ?_
      refine XS.iload X113g.here hx rfl (hb hby at_133) rfl ?_
      exact Steps.refl _)
    obtain ⟨v117_0, hv117_0, S117⟩ : ∃ (v117_0 : Int32), (if r104 = (0 : Int32) then (0 : Int32) else (1 : Int32)) = v117_0 ∧ Steps p.tables e below (T113.setTop (mkF m 135 #[.val (.int p0), .val (.int p1), .val (.int p2), .val (.int p3), .val (.int p4), .val (.int xa), .val (.int ya), .val (.int za), .val (.int wa), .val (.int (1 : Int32)), .val (.ref b6), .val (.int (1 : Int32)), .val (.int r104), .val (.int r109), .val (.int r114), .unset, .unset] [(.int r104)])) (T113.setTop (mkF m 143 #[.val (.int p0), .val (.int p1), .val (.int p2), .val (.int p3), .val (.int p4), .val (.int xa), .val (.int ya), .val (.int za), .val (.int wa), .val (.int (1 : Int32)), .val (.ref b6), .val (.int (1 : Int32)), .val (.int r104), .val (.int r109), .val (.int r114), .unset, .unset] [(.int v117_0)])) := by
      have R117 := Steps.refl (tb := p.tables) (e := e) (below := below) (T113.setTop (mkF m 135 #[.val (.int p0), .val (.int p1), .val (.int p2), .val (.int p3), .val (.int p4), .val (.int xa), .val (.int ya), .val (.int za), .val (.int wa), .val (.int (1 : Int32)), .val (.ref b6), .val (.int (1 : Int32)), .val (.int r104), .val (.int r109), .val (.int r114), .unset, .unset] [(.int r104)]))
      by_cases hc135 : r104 = (0 : Int32)
      · have K118 : Steps p.tables e below _ (T113.setTop (mkF m 143 #[.val (.int p0), .val (.int p1), .val (.int p2), .val (.int p3), .val (.int p4), .val (.int xa), .val (.int ya), .val (.int za), .val (.int wa), .val (.int (1 : Int32)), .val (.ref b6), .val (.int (1 : Int32)), .val (.int r104), .val (.int r109), .val (.int r114), .unset, .unset] [(.int (0 : Int32))])) := R117.trans (by
          refine XS.ifYes X113g.here hx rfl (pc0 := 135) (pc' := 142) rfl (hb hby at_135) rfl ((if0 _ _).trans (teq hc135).1) (by decide) (by decide) ?_
          refine XS.iconst X113g.here hx rfl (hb hby at_142) ?_
          exact Steps.refl _)
        exact ⟨(0 : Int32), (by rw [if_pos hc135]), K118⟩
      · have K119 : Steps p.tables e below _ (T113.setTop (mkF m 143 #[.val (.int p0), .val (.int p1), .val (.int p2), .val (.int p3), .val (.int p4), .val (.int xa), .val (.int ya), .val (.int za), .val (.int wa), .val (.int (1 : Int32)), .val (.ref b6), .val (.int (1 : Int32)), .val (.int r104), .val (.int r109), .val (.int r114), .unset, .unset] [(.int (1 : Int32))])) := R117.trans (by
          refine XS.ifNo X113g.here hx rfl (hb hby at_135) rfl ((if0 _ _).trans (feq hc135).1) ?_
          refine XS.iconst X113g.here hx rfl (hb hby at_138) ?_
          refine XS.goto X113g.here hx rfl (pc0 := 139) (pc' := 143) rfl (hb hby at_139) (by decide) (by decide) ?_
          exact Steps.refl _)
        exact ⟨(1 : Int32), (by rw [if_neg hc135]), K119⟩
    have K120 := K116.trans S117
    have K121 : Steps p.tables e below _ (T113.setTop (mkF m 147 #[.val (.int p0), .val (.int p1), .val (.int p2), .val (.int p3), .val (.int p4), .val (.int xa), .val (.int ya), .val (.int za), .val (.int wa), .val (.int (1 : Int32)), .val (.ref b6), .val (.int v117_0), .val (.int r104), .val (.int r109), .val (.int r114), .unset, .unset] [(.int v117_0)])) := K120.trans (by
      refine XS.istore X113g.here hx rfl (hb hby at_143) rfl (l' := #[.val (.int p0), .val (.int p1), .val (.int p2), .val (.int p3), .val (.int p4), .val (.int xa), .val (.int ya), .val (.int za), .val (.int wa), .val (.int (1 : Int32)), .val (.ref b6), .val (.int v117_0), .val (.int r104), .val (.int r109), .val (.int r114), .unset, .unset]) rfl ?_
      refine XS.iload X113g.here hx rfl (hb hby at_145) rfl ?_
      exact Steps.refl _)
    obtain ⟨v122_0, hv122_0, S122⟩ : ∃ (v122_0 : Int32), (if v117_0 = (0 : Int32) then (0 : Int32) else (if r109 = (if xa = ya then (0 : Int32) else (1 : Int32)) then (1 : Int32) else (0 : Int32))) = v122_0 ∧ Steps p.tables e below (T113.setTop (mkF m 147 #[.val (.int p0), .val (.int p1), .val (.int p2), .val (.int p3), .val (.int p4), .val (.int xa), .val (.int ya), .val (.int za), .val (.int wa), .val (.int (1 : Int32)), .val (.ref b6), .val (.int v117_0), .val (.int r104), .val (.int r109), .val (.int r114), .unset, .unset] [(.int v117_0)])) (T113.setTop (mkF m 172 #[.val (.int p0), .val (.int p1), .val (.int p2), .val (.int p3), .val (.int p4), .val (.int xa), .val (.int ya), .val (.int za), .val (.int wa), .val (.int (1 : Int32)), .val (.ref b6), .val (.int v117_0), .val (.int r104), .val (.int r109), .val (.int r114), .unset, .unset] [(.int v122_0)])) := by
      have R122 := Steps.refl (tb := p.tables) (e := e) (below := below) (T113.setTop (mkF m 147 #[.val (.int p0), .val (.int p1), .val (.int p2), .val (.int p3), .val (.int p4), .val (.int xa), .val (.int ya), .val (.int za), .val (.int wa), .val (.int (1 : Int32)), .val (.ref b6), .val (.int v117_0), .val (.int r104), .val (.int r109), .val (.int r114), .unset, .unset] [(.int v117_0)]))
      by_cases hc147 : v117_0 = (0 : Int32)
      · have K123 : Steps p.tables e below _ (T113.setTop (mkF m 172 #[.val (.int p0), .val (.int p1), .val (.int p2), .val (.int p3), .val (.int p4), .val (.int xa), .val (.int ya), .val (.int za), .val (.int wa), .val (.int (1 : Int32)), .val (.ref b6), .val (.int v117_0), .val (.int r104), .val (.int r109), .val (.int r114), .unset, .unset] [(.int (0 : Int32))])) := R122.trans (by
          refine XS.ifYes X113g.here hx rfl (pc0 := 147) (pc' := 171) rfl (hb hby at_147) rfl ((if0 _ _).trans (teq hc147).1) (by decide) (by decide) ?_
          refine XS.iconst X113g.here hx rfl (hb hby at_171) ?_
          exact Steps.refl _)
        exact ⟨(0 : Int32), (by rw [if_pos hc147]), K123⟩
      · have K124 : Steps p.tables e below _ (T113.setTop (mkF m 156 #[.val (.int p0), .val (.int p1), .val (.int p2), .val (.int p3), .val (.int p4), .val (.int xa), .val (.int ya), .val (.int za), .val (.int wa), .val (.int (1 : Int32)), .val (.ref b6), .val (.int v117_0), .val (.int r104), .val (.int r109), .val (.int r114), .unset, .unset] [(.int ya), (.int xa), (.int r109)])) := R122.trans (by
          refine XS.ifNo X113g.here hx rfl (hb hby at_147) rfl ((if0 _ _).trans (feq hc147).1) ?_
          refine XS.iload X113g.here hx rfl (hb hby at_150) rfl ?_
          refine XS.iload X113g.here hx rfl (hb hby at_152) rfl ?_
          refine XS.iload X113g.here hx rfl (hb hby at_154) rfl ?_
          exact Steps.refl _)
        obtain ⟨v125_0, hv125_0, S125⟩ : ∃ (v125_0 : Int32), (if xa = ya then (0 : Int32) else (1 : Int32)) = v125_0 ∧ Steps p.tables e below (T113.setTop (mkF m 156 #[.val (.int p0), .val (.int p1), .val (.int p2), .val (.int p3), .val (.int p4), .val (.int xa), .val (.int ya), .val (.int za), .val (.int wa), .val (.int (1 : Int32)), .val (.ref b6), .val (.int v117_0), .val (.int r104), .val (.int r109), .val (.int r114), .unset, .unset] [(.int ya), (.int xa), (.int r109)])) (T113.setTop (mkF m 164 #[.val (.int p0), .val (.int p1), .val (.int p2), .val (.int p3), .val (.int p4), .val (.int xa), .val (.int ya), .val (.int za), .val (.int wa), .val (.int (1 : Int32)), .val (.ref b6), .val (.int v117_0), .val (.int r104), .val (.int r109), .val (.int r114), .unset, .unset] [(.int v125_0), (.int r109)])) := by
          have R125 := Steps.refl (tb := p.tables) (e := e) (below := below) (T113.setTop (mkF m 156 #[.val (.int p0), .val (.int p1), .val (.int p2), .val (.int p3), .val (.int p4), .val (.int xa), .val (.int ya), .val (.int za), .val (.int wa), .val (.int (1 : Int32)), .val (.ref b6), .val (.int v117_0), .val (.int r104), .val (.int r109), .val (.int r114), .unset, .unset] [(.int ya), (.int xa), (.int r109)]))
          by_cases hc156 : xa = ya
          · have K126 : Steps p.tables e below _ (T113.setTop (mkF m 164 #[.val (.int p0), .val (.int p1), .val (.int p2), .val (.int p3), .val (.int p4), .val (.int xa), .val (.int ya), .val (.int za), .val (.int wa), .val (.int (1 : Int32)), .val (.ref b6), .val (.int v117_0), .val (.int r104), .val (.int r109), .val (.int r114), .unset, .unset] [(.int (0 : Int32)), (.int r109)])) := R125.trans (by
              refine XS.icmpYes X113g.here hx rfl (pc0 := 156) (pc' := 163) rfl (hb hby at_156) rfl (teq hc156).1 (by decide) (by decide) ?_
              refine XS.iconst X113g.here hx rfl (hb hby at_163) ?_
              exact Steps.refl _)
            exact ⟨(0 : Int32), (by rw [if_pos hc156]), K126⟩
          · have K127 : Steps p.tables e below _ (T113.setTop (mkF m 164 #[.val (.int p0), .val (.int p1), .val (.int p2), .val (.int p3), .val (.int p4), .val (.int xa), .val (.int ya), .val (.int za), .val (.int wa), .val (.int (1 : Int32)), .val (.ref b6), .val (.int v117_0), .val (.int r104), .val (.int r109), .val (.int r114), .unset, .unset] [(.int (1 : Int32)), (.int r109)])) := R125.trans (by
              refine XS.icmpNo X113g.here hx rfl (hb hby at_156) rfl (feq hc156).1 ?_
              refine XS.iconst X113g.here hx rfl (hb hby at_159) ?_
              refine XS.goto X113g.here hx rfl (pc0 := 160) (pc' := 164) rfl (hb hby at_160) (by decide) (by decide) ?_
              exact Steps.refl _)
            exact ⟨(1 : Int32), (by rw [if_neg hc156]), K127⟩
        have K128 := K124.trans S125
        by_cases hc164 : r109 = v125_0
        · have K129 : Steps p.tables e below _ (T113.setTop (mkF m 172 #[.val (.int p0), .val (.int p1), .val (.int p2), .val (.int p3), .val (.int p4), .val (.int xa), .val (.int ya), .val (.int za), .val (.int wa), .val (.int (1 : Int32)), .val (.ref b6), .val (.int v117_0), .val (.int r104), .val (.int r109), .val (.int r114), .unset, .unset] [(.int (1 : Int32))])) := K128.trans (by
            refine XS.icmpNo X113g.here hx rfl (hb hby at_164) rfl (teq hc164).2 ?_
            refine XS.iconst X113g.here hx rfl (hb hby at_167) ?_
            refine XS.goto X113g.here hx rfl (pc0 := 168) (pc' := 172) rfl (hb hby at_168) (by decide) (by decide) ?_
            exact Steps.refl _)
          subst hv125_0
          exact ⟨(1 : Int32), (by rw [if_neg hc147, if_pos hc164]), K129⟩
        · have K130 : Steps p.tables e below _ (T113.setTop (mkF m 172 #[.val (.int p0), .val (.int p1), .val (.int p2), .val (.int p3), .val (.int p4), .val (.int xa), .val (.int ya), .val (.int za), .val (.int wa), .val (.int (1 : Int32)), .val (.ref b6), .val (.int v117_0), .val (.int r104), .val (.int r109), .val (.int r114), .unset, .unset] [(.int (0 : Int32))])) := K128.trans (by
            refine XS.icmpYes X113g.here hx rfl (pc0 := 164) (pc' := 171) rfl (hb hby at_164) rfl (feq hc164).2 (by decide) (by decide) ?_
            refine XS.iconst X113g.here hx rfl (hb hby at_171) ?_
            exact Steps.refl _)
          subst hv125_0
          exact ⟨(0 : Int32), (by rw [if_neg hc147, if_neg hc164]), K130⟩
    have K131 := K121.trans S122
    have K132 : Steps p.tables e below _ (T113.setTop (mkF m 178 #[.val (.int p0), .val (.int p1), .val (.int p2), .val (.int p3), .val (.int p4), .val (.int xa), .val (.int ya), .val (.int za), .val (.int wa), .val (.int (1 : Int32)), .val (.ref b6), .val (.int v122_0), .val (.int r104), .val (.int r109), .val (.int r114), .unset, .unset] [(.int xa), (.int wa)])) := K131.trans (by
      refine XS.istore X113g.here hx rfl (hb hby at_172) rfl (l' := #[.val (.int p0), .val (.int p1), .val (.int p2), .val (.int p3), .val (.int p4), .val (.int xa), .val (.int ya), .val (.int za), .val (.int wa), .val (.int (1 : Int32)), .val (.ref b6), .val (.int v122_0), .val (.int r104), .val (.int r109), .val (.int r114), .unset, .unset]) rfl ?_
      refine XS.iload X113g.here hx rfl (hb hby at_174) rfl ?_
      refine XS.iload X113g.here hx rfl (hb hby at_176) rfl ?_
      exact Steps.refl _)
    obtain ⟨v133_0, hv133_0, S133⟩ : ∃ (v133_0 : Int32), (if wa = xa then (0 : Int32) else (if wa = ya then (0 : Int32) else (1 : Int32))) = v133_0 ∧ Steps p.tables e below (T113.setTop (mkF m 178 #[.val (.int p0), .val (.int p1), .val (.int p2), .val (.int p3), .val (.int p4), .val (.int xa), .val (.int ya), .val (.int za), .val (.int wa), .val (.int (1 : Int32)), .val (.ref b6), .val (.int v122_0), .val (.int r104), .val (.int r109), .val (.int r114), .unset, .unset] [(.int xa), (.int wa)])) (T113.setTop (mkF m 193 #[.val (.int p0), .val (.int p1), .val (.int p2), .val (.int p3), .val (.int p4), .val (.int xa), .val (.int ya), .val (.int za), .val (.int wa), .val (.int (1 : Int32)), .val (.ref b6), .val (.int v122_0), .val (.int r104), .val (.int r109), .val (.int r114), .unset, .unset] [(.int v133_0)])) := by
      have R133 := Steps.refl (tb := p.tables) (e := e) (below := below) (T113.setTop (mkF m 178 #[.val (.int p0), .val (.int p1), .val (.int p2), .val (.int p3), .val (.int p4), .val (.int xa), .val (.int ya), .val (.int za), .val (.int wa), .val (.int (1 : Int32)), .val (.ref b6), .val (.int v122_0), .val (.int r104), .val (.int r109), .val (.int r114), .unset, .unset] [(.int xa), (.int wa)]))
      by_cases hc178 : wa = xa
      · have K134 : Steps p.tables e below _ (T113.setTop (mkF m 193 #[.val (.int p0), .val (.int p1), .val (.int p2), .val (.int p3), .val (.int p4), .val (.int xa), .val (.int ya), .val (.int za), .val (.int wa), .val (.int (1 : Int32)), .val (.ref b6), .val (.int v122_0), .val (.int r104), .val (.int r109), .val (.int r114), .unset, .unset] [(.int (0 : Int32))])) := R133.trans (by
          refine XS.icmpYes X113g.here hx rfl (pc0 := 178) (pc' := 192) rfl (hb hby at_178) rfl (teq hc178).1 (by decide) (by decide) ?_
          refine XS.iconst X113g.here hx rfl (hb hby at_192) ?_
          exact Steps.refl _)
        exact ⟨(0 : Int32), (by rw [if_pos hc178]), K134⟩
      · have K135 : Steps p.tables e below _ (T113.setTop (mkF m 185 #[.val (.int p0), .val (.int p1), .val (.int p2), .val (.int p3), .val (.int p4), .val (.int xa), .val (.int ya), .val (.int za), .val (.int wa), .val (.int (1 : Int32)), .val (.ref b6), .val (.int v122_0), .val (.int r104), .val (.int r109), .val (.int r114), .unset, .unset] [(.int ya), (.int wa)])) := R133.trans (by
          refine XS.icmpNo X113g.here hx rfl (hb hby at_178) rfl (feq hc178).1 ?_
          refine XS.iload X113g.here hx rfl (hb hby at_181) rfl ?_
          refine XS.iload X113g.here hx rfl (hb hby at_183) rfl ?_
          exact Steps.refl _)
        by_cases hc185 : wa = ya
        · have K136 : Steps p.tables e below _ (T113.setTop (mkF m 193 #[.val (.int p0), .val (.int p1), .val (.int p2), .val (.int p3), .val (.int p4), .val (.int xa), .val (.int ya), .val (.int za), .val (.int wa), .val (.int (1 : Int32)), .val (.ref b6), .val (.int v122_0), .val (.int r104), .val (.int r109), .val (.int r114), .unset, .unset] [(.int (0 : Int32))])) := K135.trans (by
            refine XS.icmpYes X113g.here hx rfl (pc0 := 185) (pc' := 192) rfl (hb hby at_185) rfl (teq hc185).1 (by decide) (by decide) ?_
            refine XS.iconst X113g.here hx rfl (hb hby at_192) ?_
            exact Steps.refl _)
          exact ⟨(0 : Int32), (by rw [if_neg hc178, if_pos hc185]), K136⟩
        · have K137 : Steps p.tables e below _ (T113.setTop (mkF m 193 #[.val (.int p0), .val (.int p1), .val (.int p2), .val (.int p3), .val (.int p4), .val (.int xa), .val (.int ya), .val (.int za), .val (.int wa), .val (.int (1 : Int32)), .val (.ref b6), .val (.int v122_0), .val (.int r104), .val (.int r109), .val (.int r114), .unset, .unset] [(.int (1 : Int32))])) := K135.trans (by
            refine XS.icmpNo X113g.here hx rfl (hb hby at_185) rfl (feq hc185).1 ?_
            refine XS.iconst X113g.here hx rfl (hb hby at_188) ?_
            refine XS.goto X113g.here hx rfl (pc0 := 189) (pc' := 193) rfl (hb hby at_189) (by decide) (by decide) ?_
            exact Steps.refl _)
          exact ⟨(1 : Int32), (by rw [if_neg hc178, if_neg hc185]), K137⟩
    have K138 := K132.trans S133
    have K139 : Steps p.tables e below _ (T113.setTop (mkF m 197 #[.val (.int p0), .val (.int p1), .val (.int p2), .val (.int p3), .val (.int p4), .val (.int xa), .val (.int ya), .val (.int za), .val (.int wa), .val (.int (1 : Int32)), .val (.ref b6), .val (.int v122_0), .val (.int r104), .val (.int r109), .val (.int r114), .val (.int v133_0), .unset] [(.int v122_0)])) := K138.trans (by
      refine XS.istore X113g.here hx rfl (hb hby at_193) rfl (l' := #[.val (.int p0), .val (.int p1), .val (.int p2), .val (.int p3), .val (.int p4), .val (.int xa), .val (.int ya), .val (.int za), .val (.int wa), .val (.int (1 : Int32)), .val (.ref b6), .val (.int v122_0), .val (.int r104), .val (.int r109), .val (.int r114), .val (.int v133_0), .unset]) rfl ?_
      refine XS.iload X113g.here hx rfl (hb hby at_195) rfl ?_
      exact Steps.refl _)
    obtain ⟨v140_0, hv140_0, S140⟩ : ∃ (v140_0 : Int32), (if v122_0 = (0 : Int32) then (0 : Int32) else (if r114 = v133_0 then (1 : Int32) else (0 : Int32))) = v140_0 ∧ Steps p.tables e below (T113.setTop (mkF m 197 #[.val (.int p0), .val (.int p1), .val (.int p2), .val (.int p3), .val (.int p4), .val (.int xa), .val (.int ya), .val (.int za), .val (.int wa), .val (.int (1 : Int32)), .val (.ref b6), .val (.int v122_0), .val (.int r104), .val (.int r109), .val (.int r114), .val (.int v133_0), .unset] [(.int v122_0)])) (T113.setTop (mkF m 212 #[.val (.int p0), .val (.int p1), .val (.int p2), .val (.int p3), .val (.int p4), .val (.int xa), .val (.int ya), .val (.int za), .val (.int wa), .val (.int (1 : Int32)), .val (.ref b6), .val (.int v122_0), .val (.int r104), .val (.int r109), .val (.int r114), .val (.int v133_0), .unset] [(.int v140_0)])) := by
      have R140 := Steps.refl (tb := p.tables) (e := e) (below := below) (T113.setTop (mkF m 197 #[.val (.int p0), .val (.int p1), .val (.int p2), .val (.int p3), .val (.int p4), .val (.int xa), .val (.int ya), .val (.int za), .val (.int wa), .val (.int (1 : Int32)), .val (.ref b6), .val (.int v122_0), .val (.int r104), .val (.int r109), .val (.int r114), .val (.int v133_0), .unset] [(.int v122_0)]))
      by_cases hc197 : v122_0 = (0 : Int32)
      · have K141 : Steps p.tables e below _ (T113.setTop (mkF m 212 #[.val (.int p0), .val (.int p1), .val (.int p2), .val (.int p3), .val (.int p4), .val (.int xa), .val (.int ya), .val (.int za), .val (.int wa), .val (.int (1 : Int32)), .val (.ref b6), .val (.int v122_0), .val (.int r104), .val (.int r109), .val (.int r114), .val (.int v133_0), .unset] [(.int (0 : Int32))])) := R140.trans (by
          refine XS.ifYes X113g.here hx rfl (pc0 := 197) (pc' := 211) rfl (hb hby at_197) rfl ((if0 _ _).trans (teq hc197).1) (by decide) (by decide) ?_
          refine XS.iconst X113g.here hx rfl (hb hby at_211) ?_
          exact Steps.refl _)
        exact ⟨(0 : Int32), (by rw [if_pos hc197]), K141⟩
      · have K142 : Steps p.tables e below _ (T113.setTop (mkF m 204 #[.val (.int p0), .val (.int p1), .val (.int p2), .val (.int p3), .val (.int p4), .val (.int xa), .val (.int ya), .val (.int za), .val (.int wa), .val (.int (1 : Int32)), .val (.ref b6), .val (.int v122_0), .val (.int r104), .val (.int r109), .val (.int r114), .val (.int v133_0), .unset] [(.int v133_0), (.int r114)])) := R140.trans (by
          refine XS.ifNo X113g.here hx rfl (hb hby at_197) rfl ((if0 _ _).trans (feq hc197).1) ?_
          refine XS.iload X113g.here hx rfl (hb hby at_200) rfl ?_
          refine XS.iload X113g.here hx rfl (hb hby at_202) rfl ?_
          exact Steps.refl _)
        by_cases hc204 : r114 = v133_0
        · have K143 : Steps p.tables e below _ (T113.setTop (mkF m 212 #[.val (.int p0), .val (.int p1), .val (.int p2), .val (.int p3), .val (.int p4), .val (.int xa), .val (.int ya), .val (.int za), .val (.int wa), .val (.int (1 : Int32)), .val (.ref b6), .val (.int v122_0), .val (.int r104), .val (.int r109), .val (.int r114), .val (.int v133_0), .unset] [(.int (1 : Int32))])) := K142.trans (by
            refine XS.icmpNo X113g.here hx rfl (hb hby at_204) rfl (teq hc204).2 ?_
            refine XS.iconst X113g.here hx rfl (hb hby at_207) ?_
            refine XS.goto X113g.here hx rfl (pc0 := 208) (pc' := 212) rfl (hb hby at_208) (by decide) (by decide) ?_
            exact Steps.refl _)
          exact ⟨(1 : Int32), (by rw [if_neg hc197, if_pos hc204]), K143⟩
        · have K144 : Steps p.tables e below _ (T113.setTop (mkF m 212 #[.val (.int p0), .val (.int p1), .val (.int p2), .val (.int p3), .val (.int p4), .val (.int xa), .val (.int ya), .val (.int za), .val (.int wa), .val (.int (1 : Int32)), .val (.ref b6), .val (.int v122_0), .val (.int r104), .val (.int r109), .val (.int r114), .val (.int v133_0), .unset] [(.int (0 : Int32))])) := K142.trans (by
            refine XS.icmpYes X113g.here hx rfl (pc0 := 204) (pc' := 211) rfl (hb hby at_204) rfl (feq hc204).2 (by decide) (by decide) ?_
            refine XS.iconst X113g.here hx rfl (hb hby at_211) ?_
            exact Steps.refl _)
          exact ⟨(0 : Int32), (by rw [if_neg hc197, if_neg hc204]), K144⟩
    have K145 := K139.trans S140
    have K146 : Steps p.tables e below _ (T113.setTop (mkF m 221 #[.val (.int p0), .val (.int p1), .val (.int p2), .val (.int p3), .val (.int p4), .val (.int xa), .val (.int ya), .val (.int za), .val (.int wa), .val (.int (1 : Int32)), .val (.ref b6), .val (.int v140_0), .val (.int r104), .val (.int r109), .val (.int r114), .val (.int v133_0), .val (.int (1 : Int32))] [(.int ya), (.int xa)])) := K145.trans (by
      refine XS.istore X113g.here hx rfl (hb hby at_212) rfl (l' := #[.val (.int p0), .val (.int p1), .val (.int p2), .val (.int p3), .val (.int p4), .val (.int xa), .val (.int ya), .val (.int za), .val (.int wa), .val (.int (1 : Int32)), .val (.ref b6), .val (.int v140_0), .val (.int r104), .val (.int r109), .val (.int r114), .val (.int v133_0), .unset]) rfl ?_
      refine XS.iconst X113g.here hx rfl (hb hby at_214) ?_
      refine XS.istore X113g.here hx rfl (hb hby at_215) rfl (l' := #[.val (.int p0), .val (.int p1), .val (.int p2), .val (.int p3), .val (.int p4), .val (.int xa), .val (.int ya), .val (.int za), .val (.int wa), .val (.int (1 : Int32)), .val (.ref b6), .val (.int v140_0), .val (.int r104), .val (.int r109), .val (.int r114), .val (.int v133_0), .val (.int (1 : Int32))]) rfl ?_
      refine XS.iload X113g.here hx rfl (hb hby at_217) rfl ?_
      refine XS.iload X113g.here hx rfl (hb hby at_219) rfl ?_
      show Steps p.tables e below (T113.setTop (mkF m 221 #[.val (.int p0), .val (.int p1), .val (.int p2), .val (.int p3), .val (.int p4), .val (.int xa), .val (.int ya), .val (.int za), .val (.int wa), .val (.int (1 : Int32)), .val (.ref b6), .val (.int v140_0), .val (.int r104), .val (.int r109), .val (.int r114), .val (.int v133_0), .val (.int (1 : Int32))] [(.int ya), (.int xa)])) _
      exact Steps.refl _)
    obtain ⟨v147_0, hv147_0, S147⟩ : ∃ (v147_0 : Int32), (if xa = ya then (1 : Int32) else (2 : Int32)) = v147_0 ∧ Steps p.tables e below (T113.setTop (mkF m 221 #[.val (.int p0), .val (.int p1), .val (.int p2), .val (.int p3), .val (.int p4), .val (.int xa), .val (.int ya), .val (.int za), .val (.int wa), .val (.int (1 : Int32)), .val (.ref b6), .val (.int v140_0), .val (.int r104), .val (.int r109), .val (.int r114), .val (.int v133_0), .val (.int (1 : Int32))] [(.int ya), (.int xa)])) (T113.setTop (mkF m 230 #[.val (.int p0), .val (.int p1), .val (.int p2), .val (.int p3), .val (.int p4), .val (.int xa), .val (.int ya), .val (.int za), .val (.int wa), .val (.int (1 : Int32)), .val (.ref b6), .val (.int v140_0), .val (.int r104), .val (.int r109), .val (.int r114), .val (.int v133_0), .val (.int v147_0)] [])) := by
      have R147 := Steps.refl (tb := p.tables) (e := e) (below := below) (T113.setTop (mkF m 221 #[.val (.int p0), .val (.int p1), .val (.int p2), .val (.int p3), .val (.int p4), .val (.int xa), .val (.int ya), .val (.int za), .val (.int wa), .val (.int (1 : Int32)), .val (.ref b6), .val (.int v140_0), .val (.int r104), .val (.int r109), .val (.int r114), .val (.int v133_0), .val (.int (1 : Int32))] [(.int ya), (.int xa)]))
      by_cases hc221 : xa = ya
      · have K148 : Steps p.tables e below _ (T113.setTop (mkF m 230 #[.val (.int p0), .val (.int p1), .val (.int p2), .val (.int p3), .val (.int p4), .val (.int xa), .val (.int ya), .val (.int za), .val (.int wa), .val (.int (1 : Int32)), .val (.ref b6), .val (.int v140_0), .val (.int r104), .val (.int r109), .val (.int r114), .val (.int v133_0), .val (.int (1 : Int32))] [])) := R147.trans (by
          refine XS.icmpYes X113g.here hx rfl (pc0 := 221) (pc' := 230) rfl (hb hby at_221) rfl (teq hc221).1 (by decide) (by decide) ?_
          exact Steps.refl _)
        exact ⟨(1 : Int32), (by rw [if_pos hc221]), K148⟩
      · have K149 : Steps p.tables e below _ (T113.setTop (mkF m 230 #[.val (.int p0), .val (.int p1), .val (.int p2), .val (.int p3), .val (.int p4), .val (.int xa), .val (.int ya), .val (.int za), .val (.int wa), .val (.int (1 : Int32)), .val (.ref b6), .val (.int v140_0), .val (.int r104), .val (.int r109), .val (.int r114), .val (.int v133_0), .val (.int (2 : Int32))] [])) := R147.trans (by
          refine XS.icmpNo X113g.here hx rfl (hb hby at_221) rfl (feq hc221).1 ?_
          refine XS.iload X113g.here hx rfl (hb hby at_224) rfl ?_
          refine XS.iconst X113g.here hx rfl (hb hby at_226) ?_
          refine XS.iadd X113g.here hx rfl (hb hby at_227) rfl ?_
          refine XS.istore X113g.here hx rfl (hb hby at_228) rfl (l' := #[.val (.int p0), .val (.int p1), .val (.int p2), .val (.int p3), .val (.int p4), .val (.int xa), .val (.int ya), .val (.int za), .val (.int wa), .val (.int (1 : Int32)), .val (.ref b6), .val (.int v140_0), .val (.int r104), .val (.int r109), .val (.int r114), .val (.int v133_0), .val (.int (2 : Int32))]) rfl ?_
          show Steps p.tables e below (T113.setTop (mkF m 230 #[.val (.int p0), .val (.int p1), .val (.int p2), .val (.int p3), .val (.int p4), .val (.int xa), .val (.int ya), .val (.int za), .val (.int wa), .val (.int (1 : Int32)), .val (.ref b6), .val (.int v140_0), .val (.int r104), .val (.int r109), .val (.int r114), .val (.int v133_0), .val (.int (2 : Int32))] [])) _
          exact Steps.refl _)
        exact ⟨(2 : Int32), (by rw [if_neg hc221]), K149⟩
    have K150 := K146.trans S147
    have K151 : Steps p.tables e below _ (T113.setTop (mkF m 232 #[.val (.int p0), .val (.int p1), .val (.int p2), .val (.int p3), .val (.int p4), .val (.int xa), .val (.int ya), .val (.int za), .val (.int wa), .val (.int (1 : Int32)), .val (.ref b6), .val (.int v140_0), .val (.int r104), .val (.int r109), .val (.int r114), .val (.int v133_0), .val (.int v147_0)] [(.int v133_0)])) := K150.trans (by
      refine XS.iload X113g.here hx rfl (hb hby at_230) rfl ?_
      exact Steps.refl _)
    obtain ⟨v152_0, hv152_0, S152⟩ : ∃ (v152_0 : Int32), (if v133_0 = (0 : Int32) then v147_0 else (v147_0 + (1 : Int32))) = v152_0 ∧ Steps p.tables e below (T113.setTop (mkF m 232 #[.val (.int p0), .val (.int p1), .val (.int p2), .val (.int p3), .val (.int p4), .val (.int xa), .val (.int ya), .val (.int za), .val (.int wa), .val (.int (1 : Int32)), .val (.ref b6), .val (.int v140_0), .val (.int r104), .val (.int r109), .val (.int r114), .val (.int v133_0), .val (.int v147_0)] [(.int v133_0)])) (T113.setTop (mkF m 241 #[.val (.int p0), .val (.int p1), .val (.int p2), .val (.int p3), .val (.int p4), .val (.int xa), .val (.int ya), .val (.int za), .val (.int wa), .val (.int (1 : Int32)), .val (.ref b6), .val (.int v140_0), .val (.int r104), .val (.int r109), .val (.int r114), .val (.int v133_0), .val (.int v152_0)] [])) := by
      have R152 := Steps.refl (tb := p.tables) (e := e) (below := below) (T113.setTop (mkF m 232 #[.val (.int p0), .val (.int p1), .val (.int p2), .val (.int p3), .val (.int p4), .val (.int xa), .val (.int ya), .val (.int za), .val (.int wa), .val (.int (1 : Int32)), .val (.ref b6), .val (.int v140_0), .val (.int r104), .val (.int r109), .val (.int r114), .val (.int v133_0), .val (.int v147_0)] [(.int v133_0)]))
      by_cases hc232 : v133_0 = (0 : Int32)
      · have K153 : Steps p.tables e below _ (T113.setTop (mkF m 241 #[.val (.int p0), .val (.int p1), .val (.int p2), .val (.int p3), .val (.int p4), .val (.int xa), .val (.int ya), .val (.int za), .val (.int wa), .val (.int (1 : Int32)), .val (.ref b6), .val (.int v140_0), .val (.int r104), .val (.int r109), .val (.int r114), .val (.int v133_0), .val (.int v147_0)] [])) := R152.trans (by
          refine XS.ifYes X113g.here hx rfl (pc0 := 232) (pc' := 241) rfl (hb hby at_232) rfl ((if0 _ _).trans (teq hc232).1) (by decide) (by decide) ?_
          exact Steps.refl _)
        exact ⟨v147_0, (by rw [if_pos hc232]), K153⟩
      · have K154 : Steps p.tables e below _ (T113.setTop (mkF m 241 #[.val (.int p0), .val (.int p1), .val (.int p2), .val (.int p3), .val (.int p4), .val (.int xa), .val (.int ya), .val (.int za), .val (.int wa), .val (.int (1 : Int32)), .val (.ref b6), .val (.int v140_0), .val (.int r104), .val (.int r109), .val (.int r114), .val (.int v133_0), .val (.int (v147_0 + (1 : Int32)))] [])) := R152.trans (by
          refine XS.ifNo X113g.here hx rfl (hb hby at_232) rfl ((if0 _ _).trans (feq hc232).1) ?_
          refine XS.iload X113g.here hx rfl (hb hby at_235) rfl ?_
          refine XS.iconst X113g.here hx rfl (hb hby at_237) ?_
          refine XS.iadd X113g.here hx rfl (hb hby at_238) rfl ?_
          refine XS.istore X113g.here hx rfl (hb hby at_239) rfl (l' := #[.val (.int p0), .val (.int p1), .val (.int p2), .val (.int p3), .val (.int p4), .val (.int xa), .val (.int ya), .val (.int za), .val (.int wa), .val (.int (1 : Int32)), .val (.ref b6), .val (.int v140_0), .val (.int r104), .val (.int r109), .val (.int r114), .val (.int v133_0), .val (.int (v147_0 + (1 : Int32)))]) rfl ?_
          show Steps p.tables e below (T113.setTop (mkF m 241 #[.val (.int p0), .val (.int p1), .val (.int p2), .val (.int p3), .val (.int p4), .val (.int xa), .val (.int ya), .val (.int za), .val (.int wa), .val (.int (1 : Int32)), .val (.ref b6), .val (.int v140_0), .val (.int r104), .val (.int r109), .val (.int r114), .val (.int v133_0), .val (.int (v147_0 + (1 : Int32)))] [])) _
          exact Steps.refl _)
        exact ⟨(v147_0 + (1 : Int32)), (by rw [if_neg hc232]), K154⟩
    have K155 := K151.trans S152
    have K156 : Steps p.tables e below _ (T113.setTop (mkF m 243 #[.val (.int p0), .val (.int p1), .val (.int p2), .val (.int p3), .val (.int p4), .val (.int xa), .val (.int ya), .val (.int za), .val (.int wa), .val (.int (1 : Int32)), .val (.ref b6), .val (.int v140_0), .val (.int r104), .val (.int r109), .val (.int r114), .val (.int v133_0), .val (.int v152_0)] [(.int v140_0)])) := K155.trans (by
      refine XS.iload X113g.here hx rfl (hb hby at_241) rfl ?_
      exact Steps.refl _)
    obtain ⟨T157, L157, v157_0, X157, e157, N157, hv157_0, S157⟩ : ∃ (T157 : State) (L157 : List Loc) (v157_0 : Int32), Stand p l e room_1 s m #[(.int p0), (.int p1), (.int p2), (.int p3), (.int p4)] below meth c T157 L157 7 (40 + 2 * z2_113.toNatClampNeg) ∧ T157.heap = T113.heap ∧ Fr n0 L157 ∧ (if v140_0 = (0 : Int32) then (0 : Int32) else (if n2_113 = v152_0 then (1 : Int32) else (0 : Int32))) = v157_0 ∧ Steps p.tables e below (T113.setTop (mkF m 243 #[.val (.int p0), .val (.int p1), .val (.int p2), .val (.int p3), .val (.int p4), .val (.int xa), .val (.int ya), .val (.int za), .val (.int wa), .val (.int (1 : Int32)), .val (.ref b6), .val (.int v140_0), .val (.int r104), .val (.int r109), .val (.int r114), .val (.int v133_0), .val (.int v152_0)] [(.int v140_0)])) (T157.setTop (mkF m 261 #[.val (.int p0), .val (.int p1), .val (.int p2), .val (.int p3), .val (.int p4), .val (.int xa), .val (.int ya), .val (.int za), .val (.int wa), .val (.int (1 : Int32)), .val (.ref b6), .val (.int v140_0), .val (.int r104), .val (.int r109), .val (.int r114), .val (.int v133_0), .val (.int v152_0)] [(.int v157_0)])) := by
      have R157 := Steps.refl (tb := p.tables) (e := e) (below := below) (T113.setTop (mkF m 243 #[.val (.int p0), .val (.int p1), .val (.int p2), .val (.int p3), .val (.int p4), .val (.int xa), .val (.int ya), .val (.int za), .val (.int wa), .val (.int (1 : Int32)), .val (.ref b6), .val (.int v140_0), .val (.int r104), .val (.int r109), .val (.int r114), .val (.int v133_0), .val (.int v152_0)] [(.int v140_0)]))
      by_cases hc243 : v140_0 = (0 : Int32)
      · have K158 : Steps p.tables e below _ (T113.setTop (mkF m 261 #[.val (.int p0), .val (.int p1), .val (.int p2), .val (.int p3), .val (.int p4), .val (.int xa), .val (.int ya), .val (.int za), .val (.int wa), .val (.int (1 : Int32)), .val (.ref b6), .val (.int v140_0), .val (.int r104), .val (.int r109), .val (.int r114), .val (.int v133_0), .val (.int v152_0)] [(.int (0 : Int32))])) := R157.trans (by
          refine XS.ifYes X113g.here hx rfl (pc0 := 243) (pc' := 260) rfl (hb hby at_243) rfl ((if0 _ _).trans (teq hc243).1) (by decide) (by decide) ?_
          refine XS.iconst X113g.here hx rfl (hb hby at_260) ?_
          exact Steps.refl _)
        exact ⟨T113, _, (0 : Int32), X113g, rfl, Ng113, (by rw [if_pos hc243]), K158⟩
      · have K159 : Steps p.tables e below _ (T113.setTop (mkF m 248 #[.val (.int p0), .val (.int p1), .val (.int p2), .val (.int p3), .val (.int p4), .val (.int xa), .val (.int ya), .val (.int za), .val (.int wa), .val (.int (1 : Int32)), .val (.ref b6), .val (.int v140_0), .val (.int r104), .val (.int r109), .val (.int r114), .val (.int v133_0), .val (.int v152_0)] [(.ref b6)])) := R157.trans (by
          refine XS.ifNo X113g.here hx rfl (hb hby at_243) rfl ((if0 _ _).trans (feq hc243).1) ?_
          refine XS.aload X113g.here hx rfl (hb hby at_246) rfl rfl ?_
          exact Steps.refl _)
        have Z_160 : n0 ≤ T113.heap.size := (Nat.le_trans Z_112 Kp113.1)
        obtain ⟨cq161, kq161, q161a, q161b, q161c⟩ := isOf hZ rfl Q113_0
        obtain ⟨_, _, ⟨T161, L161, k161, n161⟩, -, X161, ⟨Lc161, hQ161, l161, y161, z161⟩, st161⟩ := X113g.virtualBack hx (y := (⟨"com/example/futures_from_states/futuresfromstates/model/StateSet", "size", "()I"⟩ : MethodName)) (z := (⟨"com/example/futures_from_states/futuresfromstates/model/StateSet", "size", "()I"⟩ : MethodName)) hown (mvT hZ (hw _ (List.mem_of_getElem? (i := 23) rfl))) (mvT hZ (hw _ (List.mem_of_getElem? (i := 24) rfl))) (notFace_of_selects (args := #[]) (mvT hZ (hw _ (List.mem_of_getElem? (i := 26) rfl)))) (mvT hZ (hw _ (List.mem_of_getElem? (i := 26) rfl))) (mvT hZ (hw _ (List.mem_of_getElem? (i := 25) rfl))) (by decide) (backOf (W := 0) (rm4 l Z a0 hw [] b6 n2_113 T113.heap n0 Z_160 Q113_3) hZ (hw _ (List.mem_of_getElem? (i := 27) rfl)) (hw _ (List.mem_of_getElem? (i := 3) rfl)) (by exact Nat.le_of_ble_eq_true rfl) (by exact Nat.le_of_ble_eq_true rfl)) q161a q161c (g := (mkF m 248 #[.val (.int p0), .val (.int p1), .val (.int p2), .val (.int p3), .val (.int p4), .val (.int xa), .val (.int ya), .val (.int za), .val (.int wa), .val (.int (1 : Int32)), .val (.ref b6), .val (.int v140_0), .val (.int r104), .val (.int r109), .val (.int r114), .val (.int v133_0), .val (.int v152_0)] [(.ref b6)])) rfl (by rw [hml]; rfl) K159 (argsL := []) (rest := []) (lenOf pd_3 rfl) rfl (by show 2 * 0 + _ ≤ _; exact Nat.le_of_eq rfl) (hb hby at_248) (fun _ _ => ⟨rfl, rfl, (by exact Nat.le_of_ble_eq_true rfl), (own_fin0 eq113_9)⟩)
        dsimp only [Pt.U, Pt.locs, Pt.cells, Pt.slots] at X161 l161 y161 z161 st161 hQ161
        subst l161 y161 z161
        obtain ⟨rfl, N161, eh161⟩ := hQ161
        have N161' := Fr.app Ng113 N161
        obtain ⟨Lg161, Xg161, Ng161⟩ : ∃ Lg, Stand p l e room_1 s m #[(.int p0), (.int p1), (.int p2), (.int p3), (.int p4)] below meth c T161 Lg 7 (40 + 2 * z2_113.toNatClampNeg) ∧ Fr n0 Lg := ⟨_, X161, N161'⟩
        have K162 : Steps p.tables e below _ (T161.setTop (mkF m 251 #[.val (.int p0), .val (.int p1), .val (.int p2), .val (.int p3), .val (.int p4), .val (.int xa), .val (.int ya), .val (.int za), .val (.int wa), .val (.int (1 : Int32)), .val (.ref b6), .val (.int v140_0), .val (.int r104), .val (.int r109), .val (.int r114), .val (.int v133_0), .val (.int v152_0)] [(.int n2_113)])) := st161
        have K163 : Steps p.tables e below _ (T161.setTop (mkF m 253 #[.val (.int p0), .val (.int p1), .val (.int p2), .val (.int p3), .val (.int p4), .val (.int xa), .val (.int ya), .val (.int za), .val (.int wa), .val (.int (1 : Int32)), .val (.ref b6), .val (.int v140_0), .val (.int r104), .val (.int r109), .val (.int r114), .val (.int v133_0), .val (.int v152_0)] [(.int v152_0), (.int n2_113)])) := K162.trans (by
          refine XS.iload Xg161.here hx rfl (hb hby at_251) rfl ?_
          exact Steps.refl _)
        by_cases hc253 : n2_113 = v152_0
        · have K164 : Steps p.tables e below _ (T161.setTop (mkF m 261 #[.val (.int p0), .val (.int p1), .val (.int p2), .val (.int p3), .val (.int p4), .val (.int xa), .val (.int ya), .val (.int za), .val (.int wa), .val (.int (1 : Int32)), .val (.ref b6), .val (.int v140_0), .val (.int r104), .val (.int r109), .val (.int r114), .val (.int v133_0), .val (.int v152_0)] [(.int (1 : Int32))])) := K163.trans (by
            refine XS.icmpNo Xg161.here hx rfl (hb hby at_253) rfl (teq hc253).2 ?_
            refine XS.iconst Xg161.here hx rfl (hb hby at_256) ?_
            refine XS.goto Xg161.here hx rfl (pc0 := 257) (pc' := 261) rfl (hb hby at_257) (by decide) (by decide) ?_
            exact Steps.refl _)
          exact ⟨T161, _, (1 : Int32), Xg161, eh161, Ng161, (by rw [if_neg hc243, if_pos hc253]), K164⟩
        · have K165 : Steps p.tables e below _ (T161.setTop (mkF m 261 #[.val (.int p0), .val (.int p1), .val (.int p2), .val (.int p3), .val (.int p4), .val (.int xa), .val (.int ya), .val (.int za), .val (.int wa), .val (.int (1 : Int32)), .val (.ref b6), .val (.int v140_0), .val (.int r104), .val (.int r109), .val (.int r114), .val (.int v133_0), .val (.int v152_0)] [(.int (0 : Int32))])) := K163.trans (by
            refine XS.icmpYes Xg161.here hx rfl (pc0 := 253) (pc' := 260) rfl (hb hby at_253) rfl (feq hc253).2 (by decide) (by decide) ?_
            refine XS.iconst Xg161.here hx rfl (hb hby at_260) ?_
            exact Steps.refl _)
          exact ⟨T161, _, (0 : Int32), Xg161, eh161, Ng161, (by rw [if_neg hc243, if_neg hc253]), K165⟩
    have K166 := K156.trans S157
    have K167 : Steps p.tables e below _ (T157.setTop (mkF m 265 #[.val (.int p0), .val (.int p1), .val (.int p2), .val (.int p3), .val (.int p4), .val (.int xa), .val (.int ya), .val (.int za), .val (.int wa), .val (.int (1 : Int32)), .val (.ref b6), .val (.int v157_0), .val (.int r104), .val (.int r109), .val (.int r114), .val (.int v133_0), .val (.int v152_0)] [(.int v157_0)])) := K166.trans (by
      refine XS.istore X157.here hx rfl (hb hby at_261) rfl (l' := #[.val (.int p0), .val (.int p1), .val (.int p2), .val (.int p3), .val (.int p4), .val (.int xa), .val (.int ya), .val (.int za), .val (.int wa), .val (.int (1 : Int32)), .val (.ref b6), .val (.int v157_0), .val (.int r104), .val (.int r109), .val (.int r114), .val (.int v133_0), .val (.int v152_0)]) rfl ?_
      refine XS.iload X157.here hx rfl (hb hby at_263) rfl ?_
      exact Steps.refl _)
    have hone : (v157_0 &&& 1) = (1 : Int32) := own_law_1 p0 p1 p2 p3 p4 xa ya za wa r91 n2_90 r104 n2_103 r109 n2_108 r114 n2_113 v117_0 v122_0 v133_0 v140_0 v147_0 v152_0 v157_0 hxa hya hza hwa hr91 hnn90 hr104 hnn103 hr109 hnn108 hr114 hnn113 hv117_0 hv122_0 hv133_0 hv140_0 hv147_0 hv152_0 hv157_0
    obtain ⟨fs, hr, hrun, hended, hW, hsame⟩ := X157.leave (v := some (.int (v157_0 &&& 1))) (fun h => by rw [Bd.returns] at h; cases h)
    exact ⟨_, _, K167.trans (retN X157 hx (t := .boolean) Bd.returns (by simp) (hb hby at_265) hr), hrun, hended, _, _, rfl, ⟨by rw [hone], N157⟩, ⟨_, rfl⟩, hW, hsame.mono (by decide) (own_fin eq113_9)⟩
  · rw [hn] at K12
    have K168 : Steps p.tables e below _ (T10.setTop (mkF m 49 #[.val (.int p0), .val (.int p1), .val (.int p2), .val (.int p3), .val (.int p4), .val (.int xa), .val (.int ya), .val (.int za), .val (.int wa), .val (.int (2 : Int32)), .val (.ref b6), .unset, .unset, .unset, .unset, .unset, .unset] [(.int xa), (.ref b6)])) := K12.trans (by
      refine XS.iload X10g.here hx rfl (hb hby at_39) rfl ?_
      refine XS.iconst X10g.here hx rfl (hb hby at_41) ?_
      refine XS.icmpNo X10g.here hx rfl (hb hby at_42) rfl (flt (by decide : ¬ ((2 : Int32) < (1 : Int32)))).1 ?_
      refine XS.aload X10g.here hx rfl (hb hby at_45) rfl rfl ?_
      refine XS.iload X10g.here hx rfl (hb hby at_47) rfl ?_
      show Steps p.tables e below (T10.setTop (mkF m 49 #[.val (.int p0), .val (.int p1), .val (.int p2), .val (.int p3), .val (.int p4), .val (.int xa), .val (.int ya), .val (.int za), .val (.int wa), .val (.int (2 : Int32)), .val (.ref b6), .unset, .unset, .unset, .unset, .unset, .unset] [(.int xa), (.ref b6)])) _
      exact Steps.refl _)
    have Z_169 : n0 ≤ T10.heap.size := (Nat.le_trans Z_9 Kp10.1)
    obtain ⟨cq170, kq170, q170a, q170b, q170c⟩ := isOf hZ rfl Q10_0
    obtain ⟨_, _, ⟨T170, L170, k170, n170⟩, -, X170, ⟨Lc170, hQ170, l170, y170, z170⟩, st170⟩ := X10g.virtualBack hx (y := (⟨"com/example/futures_from_states/futuresfromstates/model/StateSet", "add", "(I)Z"⟩ : MethodName)) (z := (⟨"com/example/futures_from_states/futuresfromstates/model/StateSet", "add", "(I)Z"⟩ : MethodName)) hown (mvT hZ (hw _ (List.mem_of_getElem? (i := 28) rfl))) (mvT hZ (hw _ (List.mem_of_getElem? (i := 29) rfl))) (notFace_of_selects (args := #[]) (mvT hZ (hw _ (List.mem_of_getElem? (i := 31) rfl)))) (mvT hZ (hw _ (List.mem_of_getElem? (i := 31) rfl))) (mvT hZ (hw _ (List.mem_of_getElem? (i := 30) rfl))) (by decide) (backOf (W := 0) (rm5 l Z a0 hw [] b6 xa b10_b5 b10_b12 k5_10 k12_10 (1 : Int32) ([(.long (0 : Int64))]) ([(.int (0 : Int32)), (.int (0 : Int32)), (.int (0 : Int32)), (.int (0 : Int32)), (.int (0 : Int32)), (.int (0 : Int32)), (.int (0 : Int32)), (.int (0 : Int32)), (.int (0 : Int32)), (.int (0 : Int32)), (.int (0 : Int32)), (.int (0 : Int32)), (.int (0 : Int32)), (.int (0 : Int32)), (.int (0 : Int32)), (.int (0 : Int32))]) (0 : Int32) ([]) T10.heap n0 Z_169 Q10_0 Q10_4 Q10_7 Q10_1 Q10_2 Q10_5 ne_b6_b10_b5 ne_b6_b10_b12 ne10_10 ge_b6 ge_b10_b5 ge_b10_b12 (hI0) (own_okp hxa) (own_e0)) hZ (hw _ (List.mem_of_getElem? (i := 32) rfl)) (hw _ (List.mem_of_getElem? (i := 3) rfl)) (by exact Nat.le_of_ble_eq_true rfl) (by exact Nat.le_of_ble_eq_true rfl)) q170a q170c (g := (mkF m 49 #[.val (.int p0), .val (.int p1), .val (.int p2), .val (.int p3), .val (.int p4), .val (.int xa), .val (.int ya), .val (.int za), .val (.int wa), .val (.int (2 : Int32)), .val (.ref b6), .unset, .unset, .unset, .unset, .unset, .unset] [(.int xa), (.ref b6)])) rfl (by rw [hml]; rfl) K168 (argsL := [(.int xa)]) (rest := []) (lenOf pd_4 rfl) rfl (by show 2 * 0 + _ ≤ _; exact Nat.le_of_eq rfl) (hb hby at_49) (fun _ _ => ⟨rfl, rfl, (by exact Nat.le_of_ble_eq_true rfl), (own_room hI0 (own_okp hxa))⟩)
    dsimp only [Pt.U, Pt.locs, Pt.cells, Pt.slots] at X170 l170 y170 z170 st170 hQ170
    subst l170 y170 z170
    obtain ⟨ba2_170, kb2_170, z2_170, vs2_170, vm2_170, n2_170, rfl, N170, Kp170, Q170_0, Q170_1, Q170_2, Q170_3, Q170_4, Q170_5, ne170_6, ne170_7, ge170_8, eq170_9, eq170_10⟩ := hQ170
    have N170' := Fr.app Ng10 N170
    obtain ⟨Lg170, Xg170, Ng170⟩ : ∃ Lg, Stand p l e room_1 s m #[(.int p0), (.int p1), (.int p2), (.int p3), (.int p4)] below meth c T170 Lg 4 ((40 + 2 * (1 : Int32).toNatClampNeg) + (own_NN (1 : Int32) xa)) ∧ Fr n0 Lg := ⟨_, X170, N170'⟩
    have K172 : Steps p.tables e below _ (T170.setTop (mkF m 52 #[.val (.int p0), .val (.int p1), .val (.int p2), .val (.int p3), .val (.int p4), .val (.int xa), .val (.int ya), .val (.int za), .val (.int wa), .val (.int (2 : Int32)), .val (.ref b6), .unset, .unset, .unset, .unset, .unset, .unset] [(.int (own_ret ([]) xa))])) := st170
    obtain ⟨r171, hr171⟩ : ∃ zq : Int32, (own_ret ([]) xa) = zq := ⟨_, rfl⟩
    rw [hr171] at K172
    have X170g := own_grow (slots' := 40 + 2 * z2_170.toNatClampNeg) Xg170 (Nat.le_refl _) (own_pot2 eq170_10)
    have hnn170 : own_ln (own_addS [] xa) = n2_170 := own_inv_len eq170_9
    have K173 : Steps p.tables e below _ (T170.setTop (mkF m 63 #[.val (.int p0), .val (.int p1), .val (.int p2), .val (.int p3), .val (.int p4), .val (.int xa), .val (.int ya), .val (.int za), .val (.int wa), .val (.int (2 : Int32)), .val (.ref b6), .unset, .unset, .unset, .unset, .unset, .unset] [(.int ya), (.ref b6)])) := K172.trans (by
      refine XS.pop X170g.here hx rfl (hb hby at_52) rfl rfl ?_
      refine XS.iload X170g.here hx rfl (hb hby at_53) rfl ?_
      refine XS.iconst X170g.here hx rfl (hb hby at_55) ?_
      refine XS.icmpNo X170g.here hx rfl (hb hby at_56) rfl (flt (by decide : ¬ ((2 : Int32) < (2 : Int32)))).1 ?_
      refine XS.aload X170g.here hx rfl (hb hby at_59) rfl rfl ?_
      show Steps p.tables e below (T170.setTop (mkF m 61 #[.val (.int p0), .val (.int p1), .val (.int p2), .val (.int p3), .val (.int p4), .val (.int xa), .val (.int ya), .val (.int za), .val (.int wa), .val (.int (2 : Int32)), .val (.ref b6), .unset, .unset, .unset, .unset, .unset, .unset] [(.ref b6)])) _
      refine XS.iload X170g.here hx rfl (hb hby at_61) rfl ?_
      exact Steps.refl _)
    have Z_174 : n0 ≤ T170.heap.size := (Nat.le_trans Z_169 Kp170.1)
    obtain ⟨cq175, kq175, q175a, q175b, q175c⟩ := isOf hZ rfl Q170_0
    obtain ⟨_, _, ⟨T175, L175, k175, n175⟩, -, X175, ⟨Lc175, hQ175, l175, y175, z175⟩, st175⟩ := X170g.virtualBack hx (y := (⟨"com/example/futures_from_states/futuresfromstates/model/StateSet", "add", "(I)Z"⟩ : MethodName)) (z := (⟨"com/example/futures_from_states/futuresfromstates/model/StateSet", "add", "(I)Z"⟩ : MethodName)) hown (mvT hZ (hw _ (List.mem_of_getElem? (i := 28) rfl))) (mvT hZ (hw _ (List.mem_of_getElem? (i := 29) rfl))) (notFace_of_selects (args := #[]) (mvT hZ (hw _ (List.mem_of_getElem? (i := 31) rfl)))) (mvT hZ (hw _ (List.mem_of_getElem? (i := 31) rfl))) (mvT hZ (hw _ (List.mem_of_getElem? (i := 30) rfl))) (by decide) (backOf (W := 0) (rm5 l Z a0 hw [] b6 ya ba2_170 b10_b12 kb2_170 k12_10 z2_170 vs2_170 vm2_170 n2_170 (own_addS [] xa) T170.heap n0 Z_174 Q170_0 Q170_1 Q170_2 Q170_3 Q170_4 Q170_5 ne170_6 ne_b6_b10_b12 ne170_7 ge_b6 ge170_8 ge_b10_b12 (eq170_9) (own_okp hya) (own_e1 _)) hZ (hw _ (List.mem_of_getElem? (i := 32) rfl)) (hw _ (List.mem_of_getElem? (i := 3) rfl)) (by exact Nat.le_of_ble_eq_true rfl) (by exact Nat.le_of_ble_eq_true rfl)) q175a q175c (g := (mkF m 63 #[.val (.int p0), .val (.int p1), .val (.int p2), .val (.int p3), .val (.int p4), .val (.int xa), .val (.int ya), .val (.int za), .val (.int wa), .val (.int (2 : Int32)), .val (.ref b6), .unset, .unset, .unset, .unset, .unset, .unset] [(.int ya), (.ref b6)])) rfl (by rw [hml]; rfl) K173 (argsL := [(.int ya)]) (rest := []) (lenOf pd_4 rfl) rfl (by show 2 * 0 + _ ≤ _; exact Nat.le_of_eq rfl) (hb hby at_63) (fun _ _ => ⟨rfl, rfl, (by exact Nat.le_of_ble_eq_true rfl), (own_room eq170_9 (own_okp hya))⟩)
    dsimp only [Pt.U, Pt.locs, Pt.cells, Pt.slots] at X175 l175 y175 z175 st175 hQ175
    subst l175 y175 z175
    obtain ⟨ba2_175, kb2_175, z2_175, vs2_175, vm2_175, n2_175, rfl, N175, Kp175, Q175_0, Q175_1, Q175_2, Q175_3, Q175_4, Q175_5, ne175_6, ne175_7, ge175_8, eq175_9, eq175_10⟩ := hQ175
    have N175' := Fr.app Ng170 N175
    obtain ⟨Lg175, Xg175, Ng175⟩ : ∃ Lg, Stand p l e room_1 s m #[(.int p0), (.int p1), (.int p2), (.int p3), (.int p4)] below meth c T175 Lg 5 ((40 + 2 * z2_170.toNatClampNeg) + (own_NN z2_170 ya)) ∧ Fr n0 Lg := ⟨_, X175, N175'⟩
    have K177 : Steps p.tables e below _ (T175.setTop (mkF m 66 #[.val (.int p0), .val (.int p1), .val (.int p2), .val (.int p3), .val (.int p4), .val (.int xa), .val (.int ya), .val (.int za), .val (.int wa), .val (.int (2 : Int32)), .val (.ref b6), .unset, .unset, .unset, .unset, .unset, .unset] [(.int (own_ret (own_addS [] xa) ya))])) := st175
    obtain ⟨r176, hr176⟩ : ∃ zq : Int32, (own_ret (own_addS [] xa) ya) = zq := ⟨_, rfl⟩
    rw [hr176] at K177
    have X175g := own_grow (slots' := 40 + 2 * z2_175.toNatClampNeg) Xg175 (Nat.le_refl _) (own_pot2 eq175_10)
    have hnn175 : own_ln (own_addS (own_addS [] xa) ya) = n2_175 := own_inv_len eq175_9
    have K178 : Steps p.tables e below _ (T175.setTop (mkF m 83 #[.val (.int p0), .val (.int p1), .val (.int p2), .val (.int p3), .val (.int p4), .val (.int xa), .val (.int ya), .val (.int za), .val (.int wa), .val (.int (2 : Int32)), .val (.ref b6), .unset, .unset, .unset, .unset, .unset, .unset] [(.ref b6)])) := K177.trans (by
      refine XS.pop X175g.here hx rfl (hb hby at_66) rfl rfl ?_
      refine XS.iload X175g.here hx rfl (hb hby at_67) rfl ?_
      refine XS.iconst X175g.here hx rfl (hb hby at_69) ?_
      refine XS.icmpYes X175g.here hx rfl (pc0 := 70) (pc' := 81) rfl (hb hby at_70) rfl (tlt (by decide : (2 : Int32) < (3 : Int32))).1 (by decide) (by decide) ?_
      refine XS.aload X175g.here hx rfl (hb hby at_81) rfl rfl ?_
      show Steps p.tables e below (T175.setTop (mkF m 83 #[.val (.int p0), .val (.int p1), .val (.int p2), .val (.int p3), .val (.int p4), .val (.int xa), .val (.int ya), .val (.int za), .val (.int wa), .val (.int (2 : Int32)), .val (.ref b6), .unset, .unset, .unset, .unset, .unset, .unset] [(.ref b6)])) _
      exact Steps.refl _)
    have Z_179 : n0 ≤ T175.heap.size := (Nat.le_trans Z_174 Kp175.1)
    obtain ⟨cq180, kq180, q180a, q180b, q180c⟩ := isOf hZ rfl Q175_0
    obtain ⟨_, _, ⟨T180, L180, k180, n180⟩, -, X180, ⟨Lc180, hQ180, l180, y180, z180⟩, st180⟩ := X175g.virtualBack hx (y := (⟨"com/example/futures_from_states/futuresfromstates/model/StateSet", "clear", "()V"⟩ : MethodName)) (z := (⟨"com/example/futures_from_states/futuresfromstates/model/StateSet", "clear", "()V"⟩ : MethodName)) hown (mvT hZ (hw _ (List.mem_of_getElem? (i := 16) rfl))) (mvT hZ (hw _ (List.mem_of_getElem? (i := 17) rfl))) (notFace_of_selects (args := #[]) (mvT hZ (hw _ (List.mem_of_getElem? (i := 19) rfl)))) (mvT hZ (hw _ (List.mem_of_getElem? (i := 19) rfl))) (mvT hZ (hw _ (List.mem_of_getElem? (i := 18) rfl))) (by decide) (backOf (W := 0) (rm3 l Z a0 hw [] b6 ba2_175 b10_b12 kb2_175 k12_10 z2_175 vs2_175 vm2_175 n2_175 (own_addS (own_addS [] xa) ya) T175.heap n0 Z_179 Q175_0 Q175_1 Q175_2 Q175_3 Q175_4 Q175_5 ne175_6 ne_b6_b10_b12 ne175_7 ge_b6 ge175_8 (eq175_9) (own_e2c _ _)) hZ (hw _ (List.mem_of_getElem? (i := 20) rfl)) (hw _ (List.mem_of_getElem? (i := 3) rfl)) (by exact Nat.le_of_ble_eq_true rfl) (by exact Nat.le_of_ble_eq_true rfl)) q180a q180c (g := (mkF m 83 #[.val (.int p0), .val (.int p1), .val (.int p2), .val (.int p3), .val (.int p4), .val (.int xa), .val (.int ya), .val (.int za), .val (.int wa), .val (.int (2 : Int32)), .val (.ref b6), .unset, .unset, .unset, .unset, .unset, .unset] [(.ref b6)])) rfl (by rw [hml]; rfl) K178 (argsL := []) (rest := []) (lenOf pd_2 rfl) rfl (by show 2 * 0 + _ ≤ _; exact Nat.le_of_eq rfl) (hb hby at_83) (fun _ _ => ⟨rfl, rfl, (by exact Nat.le_of_ble_eq_true rfl), (own_fin0 eq175_9)⟩)
    dsimp only [Pt.U, Pt.locs, Pt.cells, Pt.slots] at X180 l180 y180 z180 st180 hQ180
    subst l180 y180 z180
    obtain ⟨vs2_180, rfl, N180, Kp180, Q180_0, Q180_1, Q180_2, Q180_3, Q180_4, eq180_5⟩ := hQ180
    have N180' := Fr.app Ng175 N180
    obtain ⟨Lg180, Xg180, Ng180⟩ : ∃ Lg, Stand p l e room_1 s m #[(.int p0), (.int p1), (.int p2), (.int p3), (.int p4)] below meth c T180 Lg 5 (40 + 2 * z2_175.toNatClampNeg) ∧ Fr n0 Lg := ⟨_, X180, N180'⟩
    have K181 : Steps p.tables e below _ (T180.setTop (mkF m 86 #[.val (.int p0), .val (.int p1), .val (.int p2), .val (.int p3), .val (.int p4), .val (.int xa), .val (.int ya), .val (.int za), .val (.int wa), .val (.int (2 : Int32)), .val (.ref b6), .unset, .unset, .unset, .unset, .unset, .unset] [])) := st180
    have K182 : Steps p.tables e below _ (T180.setTop (mkF m 88 #[.val (.int p0), .val (.int p1), .val (.int p2), .val (.int p3), .val (.int p4), .val (.int xa), .val (.int ya), .val (.int za), .val (.int wa), .val (.int (2 : Int32)), .val (.ref b6), .unset, .unset, .unset, .unset, .unset, .unset] [(.ref b6)])) := K181.trans (by
      refine XS.aload Xg180.here hx rfl (hb hby at_86) rfl rfl ?_
      exact Steps.refl _)
    have Z_183 : n0 ≤ T180.heap.size := (Nat.le_trans Z_179 Kp180.1)
    obtain ⟨cq184, kq184, q184a, q184b, q184c⟩ := isOf hZ rfl Q180_0
    obtain ⟨_, _, ⟨T184, L184, k184, n184⟩, -, X184, ⟨Lc184, hQ184, l184, y184, z184⟩, st184⟩ := Xg180.virtualBack hx (y := (⟨"com/example/futures_from_states/futuresfromstates/model/StateSet", "size", "()I"⟩ : MethodName)) (z := (⟨"com/example/futures_from_states/futuresfromstates/model/StateSet", "size", "()I"⟩ : MethodName)) hown (mvT hZ (hw _ (List.mem_of_getElem? (i := 23) rfl))) (mvT hZ (hw _ (List.mem_of_getElem? (i := 24) rfl))) (notFace_of_selects (args := #[]) (mvT hZ (hw _ (List.mem_of_getElem? (i := 26) rfl)))) (mvT hZ (hw _ (List.mem_of_getElem? (i := 26) rfl))) (mvT hZ (hw _ (List.mem_of_getElem? (i := 25) rfl))) (by decide) (backOf (W := 0) (rm4 l Z a0 hw [] b6 (0 : Int32) T180.heap n0 Z_183 Q180_3) hZ (hw _ (List.mem_of_getElem? (i := 27) rfl)) (hw _ (List.mem_of_getElem? (i := 3) rfl)) (by exact Nat.le_of_ble_eq_true rfl) (by exact Nat.le_of_ble_eq_true rfl)) q184a q184c (g := (mkF m 88 #[.val (.int p0), .val (.int p1), .val (.int p2), .val (.int p3), .val (.int p4), .val (.int xa), .val (.int ya), .val (.int za), .val (.int wa), .val (.int (2 : Int32)), .val (.ref b6), .unset, .unset, .unset, .unset, .unset, .unset] [(.ref b6)])) rfl (by rw [hml]; rfl) K182 (argsL := []) (rest := []) (lenOf pd_3 rfl) rfl (by show 2 * 0 + _ ≤ _; exact Nat.le_of_eq rfl) (hb hby at_88) (fun _ _ => ⟨rfl, rfl, (by exact Nat.le_of_ble_eq_true rfl), (own_fin0 eq180_5)⟩)
    dsimp only [Pt.U, Pt.locs, Pt.cells, Pt.slots] at X184 l184 y184 z184 st184 hQ184
    subst l184 y184 z184
    obtain ⟨rfl, N184, eh184⟩ := hQ184
    have N184' := Fr.app Ng180 N184
    obtain ⟨Lg184, Xg184, Ng184⟩ : ∃ Lg, Stand p l e room_1 s m #[(.int p0), (.int p1), (.int p2), (.int p3), (.int p4)] below meth c T184 Lg 5 (40 + 2 * z2_175.toNatClampNeg) ∧ Fr n0 Lg := ⟨_, X184, N184'⟩
    have K185 : Steps p.tables e below _ (T184.setTop (mkF m 91 #[.val (.int p0), .val (.int p1), .val (.int p2), .val (.int p3), .val (.int p4), .val (.int xa), .val (.int ya), .val (.int za), .val (.int wa), .val (.int (2 : Int32)), .val (.ref b6), .unset, .unset, .unset, .unset, .unset, .unset] [(.int (0 : Int32))])) := st184
    have K186 : Steps p.tables e below _ (T184.setTop (mkF m 105 #[.val (.int p0), .val (.int p1), .val (.int p2), .val (.int p3), .val (.int p4), .val (.int xa), .val (.int ya), .val (.int za), .val (.int wa), .val (.int (2 : Int32)), .val (.ref b6), .val (.int (1 : Int32)), .unset, .unset, .unset, .unset, .unset] [(.int ya), (.ref b6)])) := K185.trans (by
      refine XS.ifNo Xg184.here hx rfl (hb hby at_91) rfl ((if0 _ _).trans (teq (by decide : (0 : Int32) = (0 : Int32))).2) ?_
      refine XS.iconst Xg184.here hx rfl (hb hby at_94) ?_
      refine XS.goto Xg184.here hx rfl (pc0 := 95) (pc' := 99) rfl (hb hby at_95) (by decide) (by decide) ?_
      refine XS.istore Xg184.here hx rfl (hb hby at_99) rfl (l' := #[.val (.int p0), .val (.int p1), .val (.int p2), .val (.int p3), .val (.int p4), .val (.int xa), .val (.int ya), .val (.int za), .val (.int wa), .val (.int (2 : Int32)), .val (.ref b6), .val (.int (1 : Int32)), .unset, .unset, .unset, .unset, .unset]) rfl ?_
      refine XS.aload Xg184.here hx rfl (hb hby at_101) rfl rfl ?_
      show Steps p.tables e below (T184.setTop (mkF m 103 #[.val (.int p0), .val (.int p1), .val (.int p2), .val (.int p3), .val (.int p4), .val (.int xa), .val (.int ya), .val (.int za), .val (.int wa), .val (.int (2 : Int32)), .val (.ref b6), .val (.int (1 : Int32)), .unset, .unset, .unset, .unset, .unset] [(.ref b6)])) _
      refine XS.iload Xg184.here hx rfl (hb hby at_103) rfl ?_
      exact Steps.refl _)
    have V_187 : Arv Z T180.heap b10_b12 k12_10 .int (16 : Int32) vm2_175 (.int (0 : Int32)) := (Q175_5.keep Kp180 (ninS (Ne.symm ne_b6_b10_b12) (ninS (Ne.symm ne175_7) nin0)))
    obtain ⟨cq188, kq188, q188a, q188b, q188c⟩ := isOf hZ eh184 Q180_0
    obtain ⟨_, _, ⟨T188, L188, k188, n188⟩, -, X188, ⟨Lc188, hQ188, l188, y188, z188⟩, st188⟩ := Xg184.virtualBack hx (y := (⟨"com/example/futures_from_states/futuresfromstates/model/StateSet", "add", "(I)Z"⟩ : MethodName)) (z := (⟨"com/example/futures_from_states/futuresfromstates/model/StateSet", "add", "(I)Z"⟩ : MethodName)) hown (mvT hZ (hw _ (List.mem_of_getElem? (i := 28) rfl))) (mvT hZ (hw _ (List.mem_of_getElem? (i := 29) rfl))) (notFace_of_selects (args := #[]) (mvT hZ (hw _ (List.mem_of_getElem? (i := 31) rfl)))) (mvT hZ (hw _ (List.mem_of_getElem? (i := 31) rfl))) (mvT hZ (hw _ (List.mem_of_getElem? (i := 30) rfl))) (by decide) (backOf (W := 0) (rm5 l Z a0 hw [] b6 ya ba2_175 b10_b12 kb2_175 k12_10 z2_175 vs2_180 vm2_175 (0 : Int32) ([]) T180.heap n0 Z_183 Q180_0 Q180_1 Q180_2 Q180_3 Q180_4 V_187 ne175_6 ne_b6_b10_b12 ne175_7 ge_b6 ge175_8 ge_b10_b12 (eq180_5) (own_okp hya) (own_e0)) hZ (hw _ (List.mem_of_getElem? (i := 32) rfl)) (hw _ (List.mem_of_getElem? (i := 3) rfl)) (by exact Nat.le_of_ble_eq_true rfl) (by exact Nat.le_of_ble_eq_true rfl)) q188a q188c (g := (mkF m 105 #[.val (.int p0), .val (.int p1), .val (.int p2), .val (.int p3), .val (.int p4), .val (.int xa), .val (.int ya), .val (.int za), .val (.int wa), .val (.int (2 : Int32)), .val (.ref b6), .val (.int (1 : Int32)), .unset, .unset, .unset, .unset, .unset] [(.int ya), (.ref b6)])) rfl (by rw [hml]; rfl) K186 (argsL := [(.int ya)]) (rest := []) (lenOf pd_4 rfl) rfl (by show 2 * 0 + _ ≤ _; exact Nat.le_of_eq rfl) (hb hby at_105) (fun _ _ => ⟨rfl, eh184, (by exact Nat.le_of_ble_eq_true rfl), (own_room eq180_5 (own_okp hya))⟩)
    dsimp only [Pt.U, Pt.locs, Pt.cells, Pt.slots] at X188 l188 y188 z188 st188 hQ188
    subst l188 y188 z188
    obtain ⟨ba2_188, kb2_188, z2_188, vs2_188, vm2_188, n2_188, rfl, N188, Kp188, Q188_0, Q188_1, Q188_2, Q188_3, Q188_4, Q188_5, ne188_6, ne188_7, ge188_8, eq188_9, eq188_10⟩ := hQ188
    have N188' := Fr.app Ng184 N188
    obtain ⟨Lg188, Xg188, Ng188⟩ : ∃ Lg, Stand p l e room_1 s m #[(.int p0), (.int p1), (.int p2), (.int p3), (.int p4)] below meth c T188 Lg 6 ((40 + 2 * z2_175.toNatClampNeg) + (own_NN z2_175 ya)) ∧ Fr n0 Lg := ⟨_, X188, N188'⟩
    have K190 : Steps p.tables e below _ (T188.setTop (mkF m 108 #[.val (.int p0), .val (.int p1), .val (.int p2), .val (.int p3), .val (.int p4), .val (.int xa), .val (.int ya), .val (.int za), .val (.int wa), .val (.int (2 : Int32)), .val (.ref b6), .val (.int (1 : Int32)), .unset, .unset, .unset, .unset, .unset] [(.int (own_ret ([]) ya))])) := st188
    obtain ⟨r189, hr189⟩ : ∃ zq : Int32, (own_ret ([]) ya) = zq := ⟨_, rfl⟩
    rw [hr189] at K190
    have X188g := own_grow (slots' := 40 + 2 * z2_188.toNatClampNeg) Xg188 (Nat.le_refl _) (own_pot2 eq188_10)
    have hnn188 : own_ln (own_addS [] ya) = n2_188 := own_inv_len eq188_9
    have K191 : Steps p.tables e below _ (T188.setTop (mkF m 114 #[.val (.int p0), .val (.int p1), .val (.int p2), .val (.int p3), .val (.int p4), .val (.int xa), .val (.int ya), .val (.int za), .val (.int wa), .val (.int (2 : Int32)), .val (.ref b6), .val (.int (1 : Int32)), .val (.int r189), .unset, .unset, .unset, .unset] [(.int xa), (.ref b6)])) := K190.trans (by
      refine XS.istore X188g.here hx rfl (hb hby at_108) rfl (l' := #[.val (.int p0), .val (.int p1), .val (.int p2), .val (.int p3), .val (.int p4), .val (.int xa), .val (.int ya), .val (.int za), .val (.int wa), .val (.int (2 : Int32)), .val (.ref b6), .val (.int (1 : Int32)), .val (.int r189), .unset, .unset, .unset, .unset]) rfl ?_
      refine XS.aload X188g.here hx rfl (hb hby at_110) rfl rfl ?_
      refine XS.iload X188g.here hx rfl (hb hby at_112) rfl ?_
      exact Steps.refl _)
    have Z_192 : n0 ≤ T188.heap.size := (Nat.le_trans Z_183 Kp188.1)
    obtain ⟨cq193, kq193, q193a, q193b, q193c⟩ := isOf hZ rfl Q188_0
    obtain ⟨_, _, ⟨T193, L193, k193, n193⟩, -, X193, ⟨Lc193, hQ193, l193, y193, z193⟩, st193⟩ := X188g.virtualBack hx (y := (⟨"com/example/futures_from_states/futuresfromstates/model/StateSet", "add", "(I)Z"⟩ : MethodName)) (z := (⟨"com/example/futures_from_states/futuresfromstates/model/StateSet", "add", "(I)Z"⟩ : MethodName)) hown (mvT hZ (hw _ (List.mem_of_getElem? (i := 28) rfl))) (mvT hZ (hw _ (List.mem_of_getElem? (i := 29) rfl))) (notFace_of_selects (args := #[]) (mvT hZ (hw _ (List.mem_of_getElem? (i := 31) rfl)))) (mvT hZ (hw _ (List.mem_of_getElem? (i := 31) rfl))) (mvT hZ (hw _ (List.mem_of_getElem? (i := 30) rfl))) (by decide) (backOf (W := 0) (rm5 l Z a0 hw [] b6 xa ba2_188 b10_b12 kb2_188 k12_10 z2_188 vs2_188 vm2_188 n2_188 (own_addS [] ya) T188.heap n0 Z_192 Q188_0 Q188_1 Q188_2 Q188_3 Q188_4 Q188_5 ne188_6 ne_b6_b10_b12 ne188_7 ge_b6 ge188_8 ge_b10_b12 (eq188_9) (own_okp hxa) (own_e1 _)) hZ (hw _ (List.mem_of_getElem? (i := 32) rfl)) (hw _ (List.mem_of_getElem? (i := 3) rfl)) (by exact Nat.le_of_ble_eq_true rfl) (by exact Nat.le_of_ble_eq_true rfl)) q193a q193c (g := (mkF m 114 #[.val (.int p0), .val (.int p1), .val (.int p2), .val (.int p3), .val (.int p4), .val (.int xa), .val (.int ya), .val (.int za), .val (.int wa), .val (.int (2 : Int32)), .val (.ref b6), .val (.int (1 : Int32)), .val (.int r189), .unset, .unset, .unset, .unset] [(.int xa), (.ref b6)])) rfl (by rw [hml]; rfl) K191 (argsL := [(.int xa)]) (rest := []) (lenOf pd_4 rfl) rfl (by show 2 * 0 + _ ≤ _; exact Nat.le_of_eq rfl) (hb hby at_114) (fun _ _ => ⟨rfl, rfl, (by exact Nat.le_of_ble_eq_true rfl), (own_room eq188_9 (own_okp hxa))⟩)
    dsimp only [Pt.U, Pt.locs, Pt.cells, Pt.slots] at X193 l193 y193 z193 st193 hQ193
    subst l193 y193 z193
    obtain ⟨ba2_193, kb2_193, z2_193, vs2_193, vm2_193, n2_193, rfl, N193, Kp193, Q193_0, Q193_1, Q193_2, Q193_3, Q193_4, Q193_5, ne193_6, ne193_7, ge193_8, eq193_9, eq193_10⟩ := hQ193
    have N193' := Fr.app Ng188 N193
    obtain ⟨Lg193, Xg193, Ng193⟩ : ∃ Lg, Stand p l e room_1 s m #[(.int p0), (.int p1), (.int p2), (.int p3), (.int p4)] below meth c T193 Lg 7 ((40 + 2 * z2_188.toNatClampNeg) + (own_NN z2_188 xa)) ∧ Fr n0 Lg := ⟨_, X193, N193'⟩
    have K195 : Steps p.tables e below _ (T193.setTop (mkF m 117 #[.val (.int p0), .val (.int p1), .val (.int p2), .val (.int p3), .val (.int p4), .val (.int xa), .val (.int ya), .val (.int za), .val (.int wa), .val (.int (2 : Int32)), .val (.ref b6), .val (.int (1 : Int32)), .val (.int r189), .unset, .unset, .unset, .unset] [(.int (own_ret (own_addS [] ya) xa))])) := st193
    obtain ⟨r194, hr194⟩ : ∃ zq : Int32, (own_ret (own_addS [] ya) xa) = zq := ⟨_, rfl⟩
    rw [hr194] at K195
    have X193g := own_grow (slots' := 40 + 2 * z2_193.toNatClampNeg) Xg193 (Nat.le_refl _) (own_pot2 eq193_10)
    have hnn193 : own_ln (own_addS (own_addS [] ya) xa) = n2_193 := own_inv_len eq193_9
    have K196 : Steps p.tables e below _ (T193.setTop (mkF m 123 #[.val (.int p0), .val (.int p1), .val (.int p2), .val (.int p3), .val (.int p4), .val (.int xa), .val (.int ya), .val (.int za), .val (.int wa), .val (.int (2 : Int32)), .val (.ref b6), .val (.int (1 : Int32)), .val (.int r189), .val (.int r194), .unset, .unset, .unset] [(.int wa), (.ref b6)])) := K195.trans (by
      refine XS.istore X193g.here hx rfl (hb hby at_117) rfl (l' := #[.val (.int p0), .val (.int p1), .val (.int p2), .val (.int p3), .val (.int p4), .val (.int xa), .val (.int ya), .val (.int za), .val (.int wa), .val (.int (2 : Int32)), .val (.ref b6), .val (.int (1 : Int32)), .val (.int r189), .val (.int r194), .unset, .unset, .unset]) rfl ?_
      refine XS.aload X193g.here hx rfl (hb hby at_119) rfl rfl ?_
      refine XS.iload X193g.here hx rfl (hb hby at_121) rfl ?_
      exact Steps.refl _)
    have Z_197 : n0 ≤ T193.heap.size := (Nat.le_trans Z_192 Kp193.1)
    obtain ⟨cq198, kq198, q198a, q198b, q198c⟩ := isOf hZ rfl Q193_0
    obtain ⟨_, _, ⟨T198, L198, k198, n198⟩, -, X198, ⟨Lc198, hQ198, l198, y198, z198⟩, st198⟩ := X193g.virtualBack hx (y := (⟨"com/example/futures_from_states/futuresfromstates/model/StateSet", "add", "(I)Z"⟩ : MethodName)) (z := (⟨"com/example/futures_from_states/futuresfromstates/model/StateSet", "add", "(I)Z"⟩ : MethodName)) hown (mvT hZ (hw _ (List.mem_of_getElem? (i := 28) rfl))) (mvT hZ (hw _ (List.mem_of_getElem? (i := 29) rfl))) (notFace_of_selects (args := #[]) (mvT hZ (hw _ (List.mem_of_getElem? (i := 31) rfl)))) (mvT hZ (hw _ (List.mem_of_getElem? (i := 31) rfl))) (mvT hZ (hw _ (List.mem_of_getElem? (i := 30) rfl))) (by decide) (backOf (W := 0) (rm5 l Z a0 hw [] b6 wa ba2_193 b10_b12 kb2_193 k12_10 z2_193 vs2_193 vm2_193 n2_193 (own_addS (own_addS [] ya) xa) T193.heap n0 Z_197 Q193_0 Q193_1 Q193_2 Q193_3 Q193_4 Q193_5 ne193_6 ne_b6_b10_b12 ne193_7 ge_b6 ge193_8 ge_b10_b12 (eq193_9) (own_okp hwa) (own_e2 _ _)) hZ (hw _ (List.mem_of_getElem? (i := 32) rfl)) (hw _ (List.mem_of_getElem? (i := 3) rfl)) (by exact Nat.le_of_ble_eq_true rfl) (by exact Nat.le_of_ble_eq_true rfl)) q198a q198c (g := (mkF m 123 #[.val (.int p0), .val (.int p1), .val (.int p2), .val (.int p3), .val (.int p4), .val (.int xa), .val (.int ya), .val (.int za), .val (.int wa), .val (.int (2 : Int32)), .val (.ref b6), .val (.int (1 : Int32)), .val (.int r189), .val (.int r194), .unset, .unset, .unset] [(.int wa), (.ref b6)])) rfl (by rw [hml]; rfl) K196 (argsL := [(.int wa)]) (rest := []) (lenOf pd_4 rfl) rfl (by show 2 * 0 + _ ≤ _; exact Nat.le_of_eq rfl) (hb hby at_123) (fun _ _ => ⟨rfl, rfl, (by exact Nat.le_of_ble_eq_true rfl), (own_room eq193_9 (own_okp hwa))⟩)
    dsimp only [Pt.U, Pt.locs, Pt.cells, Pt.slots] at X198 l198 y198 z198 st198 hQ198
    subst l198 y198 z198
    obtain ⟨ba2_198, kb2_198, z2_198, vs2_198, vm2_198, n2_198, rfl, N198, Kp198, Q198_0, Q198_1, Q198_2, Q198_3, Q198_4, Q198_5, ne198_6, ne198_7, ge198_8, eq198_9, eq198_10⟩ := hQ198
    have N198' := Fr.app Ng193 N198
    obtain ⟨Lg198, Xg198, Ng198⟩ : ∃ Lg, Stand p l e room_1 s m #[(.int p0), (.int p1), (.int p2), (.int p3), (.int p4)] below meth c T198 Lg 8 ((40 + 2 * z2_193.toNatClampNeg) + (own_NN z2_193 wa)) ∧ Fr n0 Lg := ⟨_, X198, N198'⟩
    have K200 : Steps p.tables e below _ (T198.setTop (mkF m 126 #[.val (.int p0), .val (.int p1), .val (.int p2), .val (.int p3), .val (.int p4), .val (.int xa), .val (.int ya), .val (.int za), .val (.int wa), .val (.int (2 : Int32)), .val (.ref b6), .val (.int (1 : Int32)), .val (.int r189), .val (.int r194), .unset, .unset, .unset] [(.int (own_ret (own_addS (own_addS [] ya) xa) wa))])) := st198
    obtain ⟨r199, hr199⟩ : ∃ zq : Int32, (own_ret (own_addS (own_addS [] ya) xa) wa) = zq := ⟨_, rfl⟩
    rw [hr199] at K200
    have X198g := own_grow (slots' := 40 + 2 * z2_198.toNatClampNeg) Xg198 (Nat.le_refl _) (own_pot2 eq198_10)
    have hnn198 : own_ln (own_addS (own_addS (own_addS [] ya) xa) wa) = n2_198 := own_inv_len eq198_9
    have K201 : Steps p.tables e below _ (T198.setTop (mkF m 135 #[.val (.int p0), .val (.int p1), .val (.int p2), .val (.int p3), .val (.int p4), .val (.int xa), .val (.int ya), .val (.int za), .val (.int wa), .val (.int (2 : Int32)), .val (.ref b6), .val (.int (1 : Int32)), .val (.int r189), .val (.int r194), .val (.int r199), .unset, .unset] [(.int r189)])) := K200.trans (by
      refine XS.istore X198g.here hx rfl (hb hby at_126) rfl (l' := #[.val (.int p0), .val (.int p1), .val (.int p2), .val (.int p3), .val (.int p4), .val (.int xa), .val (.int ya), .val (.int za), .val (.int wa), .val (.int (2 : Int32)), .val (.ref b6), .val (.int (1 : Int32)), .val (.int r189), .val (.int r194), .val (.int r199), .unset, .unset]) rfl ?_
      refine XS.iload X198g.here hx rfl (hb hby at_128) rfl ?_
      refine XS.ifNo X198g.here hx rfl (hb hby at_130) rfl ((if0 _ _).trans (feq (by decide : ¬ ((1 : Int32) = (0 : Int32)))).1) ?_
      refine XS.iload X198g.here hx rfl (hb hby at_133) rfl ?_
      exact Steps.refl _)
    obtain ⟨v202_0, hv202_0, S202⟩ : ∃ (v202_0 : Int32), (if r189 = (0 : Int32) then (0 : Int32) else (1 : Int32)) = v202_0 ∧ Steps p.tables e below (T198.setTop (mkF m 135 #[.val (.int p0), .val (.int p1), .val (.int p2), .val (.int p3), .val (.int p4), .val (.int xa), .val (.int ya), .val (.int za), .val (.int wa), .val (.int (2 : Int32)), .val (.ref b6), .val (.int (1 : Int32)), .val (.int r189), .val (.int r194), .val (.int r199), .unset, .unset] [(.int r189)])) (T198.setTop (mkF m 143 #[.val (.int p0), .val (.int p1), .val (.int p2), .val (.int p3), .val (.int p4), .val (.int xa), .val (.int ya), .val (.int za), .val (.int wa), .val (.int (2 : Int32)), .val (.ref b6), .val (.int (1 : Int32)), .val (.int r189), .val (.int r194), .val (.int r199), .unset, .unset] [(.int v202_0)])) := by
      have R202 := Steps.refl (tb := p.tables) (e := e) (below := below) (T198.setTop (mkF m 135 #[.val (.int p0), .val (.int p1), .val (.int p2), .val (.int p3), .val (.int p4), .val (.int xa), .val (.int ya), .val (.int za), .val (.int wa), .val (.int (2 : Int32)), .val (.ref b6), .val (.int (1 : Int32)), .val (.int r189), .val (.int r194), .val (.int r199), .unset, .unset] [(.int r189)]))
      by_cases hc135 : r189 = (0 : Int32)
      · have K203 : Steps p.tables e below _ (T198.setTop (mkF m 143 #[.val (.int p0), .val (.int p1), .val (.int p2), .val (.int p3), .val (.int p4), .val (.int xa), .val (.int ya), .val (.int za), .val (.int wa), .val (.int (2 : Int32)), .val (.ref b6), .val (.int (1 : Int32)), .val (.int r189), .val (.int r194), .val (.int r199), .unset, .unset] [(.int (0 : Int32))])) := R202.trans (by
          refine XS.ifYes X198g.here hx rfl (pc0 := 135) (pc' := 142) rfl (hb hby at_135) rfl ((if0 _ _).trans (teq hc135).1) (by decide) (by decide) ?_
          refine XS.iconst X198g.here hx rfl (hb hby at_142) ?_
          exact Steps.refl _)
        exact ⟨(0 : Int32), (by rw [if_pos hc135]), K203⟩
      · have K204 : Steps p.tables e below _ (T198.setTop (mkF m 143 #[.val (.int p0), .val (.int p1), .val (.int p2), .val (.int p3), .val (.int p4), .val (.int xa), .val (.int ya), .val (.int za), .val (.int wa), .val (.int (2 : Int32)), .val (.ref b6), .val (.int (1 : Int32)), .val (.int r189), .val (.int r194), .val (.int r199), .unset, .unset] [(.int (1 : Int32))])) := R202.trans (by
          refine XS.ifNo X198g.here hx rfl (hb hby at_135) rfl ((if0 _ _).trans (feq hc135).1) ?_
          refine XS.iconst X198g.here hx rfl (hb hby at_138) ?_
          refine XS.goto X198g.here hx rfl (pc0 := 139) (pc' := 143) rfl (hb hby at_139) (by decide) (by decide) ?_
          exact Steps.refl _)
        exact ⟨(1 : Int32), (by rw [if_neg hc135]), K204⟩
    have K205 := K201.trans S202
    have K206 : Steps p.tables e below _ (T198.setTop (mkF m 147 #[.val (.int p0), .val (.int p1), .val (.int p2), .val (.int p3), .val (.int p4), .val (.int xa), .val (.int ya), .val (.int za), .val (.int wa), .val (.int (2 : Int32)), .val (.ref b6), .val (.int v202_0), .val (.int r189), .val (.int r194), .val (.int r199), .unset, .unset] [(.int v202_0)])) := K205.trans (by
      refine XS.istore X198g.here hx rfl (hb hby at_143) rfl (l' := #[.val (.int p0), .val (.int p1), .val (.int p2), .val (.int p3), .val (.int p4), .val (.int xa), .val (.int ya), .val (.int za), .val (.int wa), .val (.int (2 : Int32)), .val (.ref b6), .val (.int v202_0), .val (.int r189), .val (.int r194), .val (.int r199), .unset, .unset]) rfl ?_
      refine XS.iload X198g.here hx rfl (hb hby at_145) rfl ?_
      exact Steps.refl _)
    obtain ⟨v207_0, hv207_0, S207⟩ : ∃ (v207_0 : Int32), (if v202_0 = (0 : Int32) then (0 : Int32) else (if r194 = (if xa = ya then (0 : Int32) else (1 : Int32)) then (1 : Int32) else (0 : Int32))) = v207_0 ∧ Steps p.tables e below (T198.setTop (mkF m 147 #[.val (.int p0), .val (.int p1), .val (.int p2), .val (.int p3), .val (.int p4), .val (.int xa), .val (.int ya), .val (.int za), .val (.int wa), .val (.int (2 : Int32)), .val (.ref b6), .val (.int v202_0), .val (.int r189), .val (.int r194), .val (.int r199), .unset, .unset] [(.int v202_0)])) (T198.setTop (mkF m 172 #[.val (.int p0), .val (.int p1), .val (.int p2), .val (.int p3), .val (.int p4), .val (.int xa), .val (.int ya), .val (.int za), .val (.int wa), .val (.int (2 : Int32)), .val (.ref b6), .val (.int v202_0), .val (.int r189), .val (.int r194), .val (.int r199), .unset, .unset] [(.int v207_0)])) := by
      have R207 := Steps.refl (tb := p.tables) (e := e) (below := below) (T198.setTop (mkF m 147 #[.val (.int p0), .val (.int p1), .val (.int p2), .val (.int p3), .val (.int p4), .val (.int xa), .val (.int ya), .val (.int za), .val (.int wa), .val (.int (2 : Int32)), .val (.ref b6), .val (.int v202_0), .val (.int r189), .val (.int r194), .val (.int r199), .unset, .unset] [(.int v202_0)]))
      by_cases hc147 : v202_0 = (0 : Int32)
      · have K208 : Steps p.tables e below _ (T198.setTop (mkF m 172 #[.val (.int p0), .val (.int p1), .val (.int p2), .val (.int p3), .val (.int p4), .val (.int xa), .val (.int ya), .val (.int za), .val (.int wa), .val (.int (2 : Int32)), .val (.ref b6), .val (.int v202_0), .val (.int r189), .val (.int r194), .val (.int r199), .unset, .unset] [(.int (0 : Int32))])) := R207.trans (by
          refine XS.ifYes X198g.here hx rfl (pc0 := 147) (pc' := 171) rfl (hb hby at_147) rfl ((if0 _ _).trans (teq hc147).1) (by decide) (by decide) ?_
          refine XS.iconst X198g.here hx rfl (hb hby at_171) ?_
          exact Steps.refl _)
        exact ⟨(0 : Int32), (by rw [if_pos hc147]), K208⟩
      · have K209 : Steps p.tables e below _ (T198.setTop (mkF m 156 #[.val (.int p0), .val (.int p1), .val (.int p2), .val (.int p3), .val (.int p4), .val (.int xa), .val (.int ya), .val (.int za), .val (.int wa), .val (.int (2 : Int32)), .val (.ref b6), .val (.int v202_0), .val (.int r189), .val (.int r194), .val (.int r199), .unset, .unset] [(.int ya), (.int xa), (.int r194)])) := R207.trans (by
          refine XS.ifNo X198g.here hx rfl (hb hby at_147) rfl ((if0 _ _).trans (feq hc147).1) ?_
          refine XS.iload X198g.here hx rfl (hb hby at_150) rfl ?_
          refine XS.iload X198g.here hx rfl (hb hby at_152) rfl ?_
          refine XS.iload X198g.here hx rfl (hb hby at_154) rfl ?_
          exact Steps.refl _)
        obtain ⟨v210_0, hv210_0, S210⟩ : ∃ (v210_0 : Int32), (if xa = ya then (0 : Int32) else (1 : Int32)) = v210_0 ∧ Steps p.tables e below (T198.setTop (mkF m 156 #[.val (.int p0), .val (.int p1), .val (.int p2), .val (.int p3), .val (.int p4), .val (.int xa), .val (.int ya), .val (.int za), .val (.int wa), .val (.int (2 : Int32)), .val (.ref b6), .val (.int v202_0), .val (.int r189), .val (.int r194), .val (.int r199), .unset, .unset] [(.int ya), (.int xa), (.int r194)])) (T198.setTop (mkF m 164 #[.val (.int p0), .val (.int p1), .val (.int p2), .val (.int p3), .val (.int p4), .val (.int xa), .val (.int ya), .val (.int za), .val (.int wa), .val (.int (2 : Int32)), .val (.ref b6), .val (.int v202_0), .val (.int r189), .val (.int r194), .val (.int r199), .unset, .unset] [(.int v210_0), (.int r194)])) := by
          have R210 := Steps.refl (tb := p.tables) (e := e) (below := below) (T198.setTop (mkF m 156 #[.val (.int p0), .val (.int p1), .val (.int p2), .val (.int p3), .val (.int p4), .val (.int xa), .val (.int ya), .val (.int za), .val (.int wa), .val (.int (2 : Int32)), .val (.ref b6), .val (.int v202_0), .val (.int r189), .val (.int r194), .val (.int r199), .unset, .unset] [(.int ya), (.int xa), (.int r194)]))
          by_cases hc156 : xa = ya
          · have K211 : Steps p.tables e below _ (T198.setTop (mkF m 164 #[.val (.int p0), .val (.int p1), .val (.int p2), .val (.int p3), .val (.int p4), .val (.int xa), .val (.int ya), .val (.int za), .val (.int wa), .val (.int (2 : Int32)), .val (.ref b6), .val (.int v202_0), .val (.int r189), .val (.int r194), .val (.int r199), .unset, .unset] [(.int (0 : Int32)), (.int r194)])) := R210.trans (by
              refine XS.icmpYes X198g.here hx rfl (pc0 := 156) (pc' := 163) rfl (hb hby at_156) rfl (teq hc156).1 (by decide) (by decide) ?_
              refine XS.iconst X198g.here hx rfl (hb hby at_163) ?_
              exact Steps.refl _)
            exact ⟨(0 : Int32), (by rw [if_pos hc156]), K211⟩
          · have K212 : Steps p.tables e below _ (T198.setTop (mkF m 164 #[.val (.int p0), .val (.int p1), .val (.int p2), .val (.int p3), .val (.int p4), .val (.int xa), .val (.int ya), .val (.int za), .val (.int wa), .val (.int (2 : Int32)), .val (.ref b6), .val (.int v202_0), .val (.int r189), .val (.int r194), .val (.int r199), .unset, .unset] [(.int (1 : Int32)), (.int r194)])) := R210.trans (by
              refine XS.icmpNo X198g.here hx rfl (hb hby at_156) rfl (feq hc156).1 ?_
              refine XS.iconst X198g.here hx rfl (hb hby at_159) ?_
              refine XS.goto X198g.here hx rfl (pc0 := 160) (pc' := 164) rfl (hb hby at_160) (by decide) (by decide) ?_
              exact Steps.refl _)
            exact ⟨(1 : Int32), (by rw [if_neg hc156]), K212⟩
        have K213 := K209.trans S210
        by_cases hc164 : r194 = v210_0
        · have K214 : Steps p.tables e below _ (T198.setTop (mkF m 172 #[.val (.int p0), .val (.int p1), .val (.int p2), .val (.int p3), .val (.int p4), .val (.int xa), .val (.int ya), .val (.int za), .val (.int wa), .val (.int (2 : Int32)), .val (.ref b6), .val (.int v202_0), .val (.int r189), .val (.int r194), .val (.int r199), .unset, .unset] [(.int (1 : Int32))])) := K213.trans (by
            refine XS.icmpNo X198g.here hx rfl (hb hby at_164) rfl (teq hc164).2 ?_
            refine XS.iconst X198g.here hx rfl (hb hby at_167) ?_
            refine XS.goto X198g.here hx rfl (pc0 := 168) (pc' := 172) rfl (hb hby at_168) (by decide) (by decide) ?_
            exact Steps.refl _)
          subst hv210_0
          exact ⟨(1 : Int32), (by rw [if_neg hc147, if_pos hc164]), K214⟩
        · have K215 : Steps p.tables e below _ (T198.setTop (mkF m 172 #[.val (.int p0), .val (.int p1), .val (.int p2), .val (.int p3), .val (.int p4), .val (.int xa), .val (.int ya), .val (.int za), .val (.int wa), .val (.int (2 : Int32)), .val (.ref b6), .val (.int v202_0), .val (.int r189), .val (.int r194), .val (.int r199), .unset, .unset] [(.int (0 : Int32))])) := K213.trans (by
            refine XS.icmpYes X198g.here hx rfl (pc0 := 164) (pc' := 171) rfl (hb hby at_164) rfl (feq hc164).2 (by decide) (by decide) ?_
            refine XS.iconst X198g.here hx rfl (hb hby at_171) ?_
            exact Steps.refl _)
          subst hv210_0
          exact ⟨(0 : Int32), (by rw [if_neg hc147, if_neg hc164]), K215⟩
    have K216 := K206.trans S207
    have K217 : Steps p.tables e below _ (T198.setTop (mkF m 178 #[.val (.int p0), .val (.int p1), .val (.int p2), .val (.int p3), .val (.int p4), .val (.int xa), .val (.int ya), .val (.int za), .val (.int wa), .val (.int (2 : Int32)), .val (.ref b6), .val (.int v207_0), .val (.int r189), .val (.int r194), .val (.int r199), .unset, .unset] [(.int xa), (.int wa)])) := K216.trans (by
      refine XS.istore X198g.here hx rfl (hb hby at_172) rfl (l' := #[.val (.int p0), .val (.int p1), .val (.int p2), .val (.int p3), .val (.int p4), .val (.int xa), .val (.int ya), .val (.int za), .val (.int wa), .val (.int (2 : Int32)), .val (.ref b6), .val (.int v207_0), .val (.int r189), .val (.int r194), .val (.int r199), .unset, .unset]) rfl ?_
      refine XS.iload X198g.here hx rfl (hb hby at_174) rfl ?_
      refine XS.iload X198g.here hx rfl (hb hby at_176) rfl ?_
      exact Steps.refl _)
    obtain ⟨v218_0, hv218_0, S218⟩ : ∃ (v218_0 : Int32), (if wa = xa then (0 : Int32) else (if wa = ya then (0 : Int32) else (1 : Int32))) = v218_0 ∧ Steps p.tables e below (T198.setTop (mkF m 178 #[.val (.int p0), .val (.int p1), .val (.int p2), .val (.int p3), .val (.int p4), .val (.int xa), .val (.int ya), .val (.int za), .val (.int wa), .val (.int (2 : Int32)), .val (.ref b6), .val (.int v207_0), .val (.int r189), .val (.int r194), .val (.int r199), .unset, .unset] [(.int xa), (.int wa)])) (T198.setTop (mkF m 193 #[.val (.int p0), .val (.int p1), .val (.int p2), .val (.int p3), .val (.int p4), .val (.int xa), .val (.int ya), .val (.int za), .val (.int wa), .val (.int (2 : Int32)), .val (.ref b6), .val (.int v207_0), .val (.int r189), .val (.int r194), .val (.int r199), .unset, .unset] [(.int v218_0)])) := by
      have R218 := Steps.refl (tb := p.tables) (e := e) (below := below) (T198.setTop (mkF m 178 #[.val (.int p0), .val (.int p1), .val (.int p2), .val (.int p3), .val (.int p4), .val (.int xa), .val (.int ya), .val (.int za), .val (.int wa), .val (.int (2 : Int32)), .val (.ref b6), .val (.int v207_0), .val (.int r189), .val (.int r194), .val (.int r199), .unset, .unset] [(.int xa), (.int wa)]))
      by_cases hc178 : wa = xa
      · have K219 : Steps p.tables e below _ (T198.setTop (mkF m 193 #[.val (.int p0), .val (.int p1), .val (.int p2), .val (.int p3), .val (.int p4), .val (.int xa), .val (.int ya), .val (.int za), .val (.int wa), .val (.int (2 : Int32)), .val (.ref b6), .val (.int v207_0), .val (.int r189), .val (.int r194), .val (.int r199), .unset, .unset] [(.int (0 : Int32))])) := R218.trans (by
          refine XS.icmpYes X198g.here hx rfl (pc0 := 178) (pc' := 192) rfl (hb hby at_178) rfl (teq hc178).1 (by decide) (by decide) ?_
          refine XS.iconst X198g.here hx rfl (hb hby at_192) ?_
          exact Steps.refl _)
        exact ⟨(0 : Int32), (by rw [if_pos hc178]), K219⟩
      · have K220 : Steps p.tables e below _ (T198.setTop (mkF m 185 #[.val (.int p0), .val (.int p1), .val (.int p2), .val (.int p3), .val (.int p4), .val (.int xa), .val (.int ya), .val (.int za), .val (.int wa), .val (.int (2 : Int32)), .val (.ref b6), .val (.int v207_0), .val (.int r189), .val (.int r194), .val (.int r199), .unset, .unset] [(.int ya), (.int wa)])) := R218.trans (by
          refine XS.icmpNo X198g.here hx rfl (hb hby at_178) rfl (feq hc178).1 ?_
          refine XS.iload X198g.here hx rfl (hb hby at_181) rfl ?_
          refine XS.iload X198g.here hx rfl (hb hby at_183) rfl ?_
          exact Steps.refl _)
        by_cases hc185 : wa = ya
        · have K221 : Steps p.tables e below _ (T198.setTop (mkF m 193 #[.val (.int p0), .val (.int p1), .val (.int p2), .val (.int p3), .val (.int p4), .val (.int xa), .val (.int ya), .val (.int za), .val (.int wa), .val (.int (2 : Int32)), .val (.ref b6), .val (.int v207_0), .val (.int r189), .val (.int r194), .val (.int r199), .unset, .unset] [(.int (0 : Int32))])) := K220.trans (by
            refine XS.icmpYes X198g.here hx rfl (pc0 := 185) (pc' := 192) rfl (hb hby at_185) rfl (teq hc185).1 (by decide) (by decide) ?_
            refine XS.iconst X198g.here hx rfl (hb hby at_192) ?_
            exact Steps.refl _)
          exact ⟨(0 : Int32), (by rw [if_neg hc178, if_pos hc185]), K221⟩
        · have K222 : Steps p.tables e below _ (T198.setTop (mkF m 193 #[.val (.int p0), .val (.int p1), .val (.int p2), .val (.int p3), .val (.int p4), .val (.int xa), .val (.int ya), .val (.int za), .val (.int wa), .val (.int (2 : Int32)), .val (.ref b6), .val (.int v207_0), .val (.int r189), .val (.int r194), .val (.int r199), .unset, .unset] [(.int (1 : Int32))])) := K220.trans (by
            refine XS.icmpNo X198g.here hx rfl (hb hby at_185) rfl (feq hc185).1 ?_
            refine XS.iconst X198g.here hx rfl (hb hby at_188) ?_
            refine XS.goto X198g.here hx rfl (pc0 := 189) (pc' := 193) rfl (hb hby at_189) (by decide) (by decide) ?_
            exact Steps.refl _)
          exact ⟨(1 : Int32), (by rw [if_neg hc178, if_neg hc185]), K222⟩
    have K223 := K217.trans S218
    have K224 : Steps p.tables e below _ (T198.setTop (mkF m 197 #[.val (.int p0), .val (.int p1), .val (.int p2), .val (.int p3), .val (.int p4), .val (.int xa), .val (.int ya), .val (.int za), .val (.int wa), .val (.int (2 : Int32)), .val (.ref b6), .val (.int v207_0), .val (.int r189), .val (.int r194), .val (.int r199), .val (.int v218_0), .unset] [(.int v207_0)])) := K223.trans (by
      refine XS.istore X198g.here hx rfl (hb hby at_193) rfl (l' := #[.val (.int p0), .val (.int p1), .val (.int p2), .val (.int p3), .val (.int p4), .val (.int xa), .val (.int ya), .val (.int za), .val (.int wa), .val (.int (2 : Int32)), .val (.ref b6), .val (.int v207_0), .val (.int r189), .val (.int r194), .val (.int r199), .val (.int v218_0), .unset]) rfl ?_
      refine XS.iload X198g.here hx rfl (hb hby at_195) rfl ?_
      exact Steps.refl _)
    obtain ⟨v225_0, hv225_0, S225⟩ : ∃ (v225_0 : Int32), (if v207_0 = (0 : Int32) then (0 : Int32) else (if r199 = v218_0 then (1 : Int32) else (0 : Int32))) = v225_0 ∧ Steps p.tables e below (T198.setTop (mkF m 197 #[.val (.int p0), .val (.int p1), .val (.int p2), .val (.int p3), .val (.int p4), .val (.int xa), .val (.int ya), .val (.int za), .val (.int wa), .val (.int (2 : Int32)), .val (.ref b6), .val (.int v207_0), .val (.int r189), .val (.int r194), .val (.int r199), .val (.int v218_0), .unset] [(.int v207_0)])) (T198.setTop (mkF m 212 #[.val (.int p0), .val (.int p1), .val (.int p2), .val (.int p3), .val (.int p4), .val (.int xa), .val (.int ya), .val (.int za), .val (.int wa), .val (.int (2 : Int32)), .val (.ref b6), .val (.int v207_0), .val (.int r189), .val (.int r194), .val (.int r199), .val (.int v218_0), .unset] [(.int v225_0)])) := by
      have R225 := Steps.refl (tb := p.tables) (e := e) (below := below) (T198.setTop (mkF m 197 #[.val (.int p0), .val (.int p1), .val (.int p2), .val (.int p3), .val (.int p4), .val (.int xa), .val (.int ya), .val (.int za), .val (.int wa), .val (.int (2 : Int32)), .val (.ref b6), .val (.int v207_0), .val (.int r189), .val (.int r194), .val (.int r199), .val (.int v218_0), .unset] [(.int v207_0)]))
      by_cases hc197 : v207_0 = (0 : Int32)
      · have K226 : Steps p.tables e below _ (T198.setTop (mkF m 212 #[.val (.int p0), .val (.int p1), .val (.int p2), .val (.int p3), .val (.int p4), .val (.int xa), .val (.int ya), .val (.int za), .val (.int wa), .val (.int (2 : Int32)), .val (.ref b6), .val (.int v207_0), .val (.int r189), .val (.int r194), .val (.int r199), .val (.int v218_0), .unset] [(.int (0 : Int32))])) := R225.trans (by
          refine XS.ifYes X198g.here hx rfl (pc0 := 197) (pc' := 211) rfl (hb hby at_197) rfl ((if0 _ _).trans (teq hc197).1) (by decide) (by decide) ?_
          refine XS.iconst X198g.here hx rfl (hb hby at_211) ?_
          exact Steps.refl _)
        exact ⟨(0 : Int32), (by rw [if_pos hc197]), K226⟩
      · have K227 : Steps p.tables e below _ (T198.setTop (mkF m 204 #[.val (.int p0), .val (.int p1), .val (.int p2), .val (.int p3), .val (.int p4), .val (.int xa), .val (.int ya), .val (.int za), .val (.int wa), .val (.int (2 : Int32)), .val (.ref b6), .val (.int v207_0), .val (.int r189), .val (.int r194), .val (.int r199), .val (.int v218_0), .unset] [(.int v218_0), (.int r199)])) := R225.trans (by
          refine XS.ifNo X198g.here hx rfl (hb hby at_197) rfl ((if0 _ _).trans (feq hc197).1) ?_
          refine XS.iload X198g.here hx rfl (hb hby at_200) rfl ?_
          refine XS.iload X198g.here hx rfl (hb hby at_202) rfl ?_
          exact Steps.refl _)
        by_cases hc204 : r199 = v218_0
        · have K228 : Steps p.tables e below _ (T198.setTop (mkF m 212 #[.val (.int p0), .val (.int p1), .val (.int p2), .val (.int p3), .val (.int p4), .val (.int xa), .val (.int ya), .val (.int za), .val (.int wa), .val (.int (2 : Int32)), .val (.ref b6), .val (.int v207_0), .val (.int r189), .val (.int r194), .val (.int r199), .val (.int v218_0), .unset] [(.int (1 : Int32))])) := K227.trans (by
            refine XS.icmpNo X198g.here hx rfl (hb hby at_204) rfl (teq hc204).2 ?_
            refine XS.iconst X198g.here hx rfl (hb hby at_207) ?_
            refine XS.goto X198g.here hx rfl (pc0 := 208) (pc' := 212) rfl (hb hby at_208) (by decide) (by decide) ?_
            exact Steps.refl _)
          exact ⟨(1 : Int32), (by rw [if_neg hc197, if_pos hc204]), K228⟩
        · have K229 : Steps p.tables e below _ (T198.setTop (mkF m 212 #[.val (.int p0), .val (.int p1), .val (.int p2), .val (.int p3), .val (.int p4), .val (.int xa), .val (.int ya), .val (.int za), .val (.int wa), .val (.int (2 : Int32)), .val (.ref b6), .val (.int v207_0), .val (.int r189), .val (.int r194), .val (.int r199), .val (.int v218_0), .unset] [(.int (0 : Int32))])) := K227.trans (by
            refine XS.icmpYes X198g.here hx rfl (pc0 := 204) (pc' := 211) rfl (hb hby at_204) rfl (feq hc204).2 (by decide) (by decide) ?_
            refine XS.iconst X198g.here hx rfl (hb hby at_211) ?_
            exact Steps.refl _)
          exact ⟨(0 : Int32), (by rw [if_neg hc197, if_neg hc204]), K229⟩
    have K230 := K224.trans S225
    have K231 : Steps p.tables e below _ (T198.setTop (mkF m 221 #[.val (.int p0), .val (.int p1), .val (.int p2), .val (.int p3), .val (.int p4), .val (.int xa), .val (.int ya), .val (.int za), .val (.int wa), .val (.int (2 : Int32)), .val (.ref b6), .val (.int v225_0), .val (.int r189), .val (.int r194), .val (.int r199), .val (.int v218_0), .val (.int (1 : Int32))] [(.int ya), (.int xa)])) := K230.trans (by
      refine XS.istore X198g.here hx rfl (hb hby at_212) rfl (l' := #[.val (.int p0), .val (.int p1), .val (.int p2), .val (.int p3), .val (.int p4), .val (.int xa), .val (.int ya), .val (.int za), .val (.int wa), .val (.int (2 : Int32)), .val (.ref b6), .val (.int v225_0), .val (.int r189), .val (.int r194), .val (.int r199), .val (.int v218_0), .unset]) rfl ?_
      refine XS.iconst X198g.here hx rfl (hb hby at_214) ?_
      refine XS.istore X198g.here hx rfl (hb hby at_215) rfl (l' := #[.val (.int p0), .val (.int p1), .val (.int p2), .val (.int p3), .val (.int p4), .val (.int xa), .val (.int ya), .val (.int za), .val (.int wa), .val (.int (2 : Int32)), .val (.ref b6), .val (.int v225_0), .val (.int r189), .val (.int r194), .val (.int r199), .val (.int v218_0), .val (.int (1 : Int32))]) rfl ?_
      refine XS.iload X198g.here hx rfl (hb hby at_217) rfl ?_
      refine XS.iload X198g.here hx rfl (hb hby at_219) rfl ?_
      show Steps p.tables e below (T198.setTop (mkF m 221 #[.val (.int p0), .val (.int p1), .val (.int p2), .val (.int p3), .val (.int p4), .val (.int xa), .val (.int ya), .val (.int za), .val (.int wa), .val (.int (2 : Int32)), .val (.ref b6), .val (.int v225_0), .val (.int r189), .val (.int r194), .val (.int r199), .val (.int v218_0), .val (.int (1 : Int32))] [(.int ya), (.int xa)])) _
      exact Steps.refl _)
    obtain ⟨v232_0, hv232_0, S232⟩ : ∃ (v232_0 : Int32), (if xa = ya then (1 : Int32) else (2 : Int32)) = v232_0 ∧ Steps p.tables e below (T198.setTop (mkF m 221 #[.val (.int p0), .val (.int p1), .val (.int p2), .val (.int p3), .val (.int p4), .val (.int xa), .val (.int ya), .val (.int za), .val (.int wa), .val (.int (2 : Int32)), .val (.ref b6), .val (.int v225_0), .val (.int r189), .val (.int r194), .val (.int r199), .val (.int v218_0), .val (.int (1 : Int32))] [(.int ya), (.int xa)])) (T198.setTop (mkF m 230 #[.val (.int p0), .val (.int p1), .val (.int p2), .val (.int p3), .val (.int p4), .val (.int xa), .val (.int ya), .val (.int za), .val (.int wa), .val (.int (2 : Int32)), .val (.ref b6), .val (.int v225_0), .val (.int r189), .val (.int r194), .val (.int r199), .val (.int v218_0), .val (.int v232_0)] [])) := by
      have R232 := Steps.refl (tb := p.tables) (e := e) (below := below) (T198.setTop (mkF m 221 #[.val (.int p0), .val (.int p1), .val (.int p2), .val (.int p3), .val (.int p4), .val (.int xa), .val (.int ya), .val (.int za), .val (.int wa), .val (.int (2 : Int32)), .val (.ref b6), .val (.int v225_0), .val (.int r189), .val (.int r194), .val (.int r199), .val (.int v218_0), .val (.int (1 : Int32))] [(.int ya), (.int xa)]))
      by_cases hc221 : xa = ya
      · have K233 : Steps p.tables e below _ (T198.setTop (mkF m 230 #[.val (.int p0), .val (.int p1), .val (.int p2), .val (.int p3), .val (.int p4), .val (.int xa), .val (.int ya), .val (.int za), .val (.int wa), .val (.int (2 : Int32)), .val (.ref b6), .val (.int v225_0), .val (.int r189), .val (.int r194), .val (.int r199), .val (.int v218_0), .val (.int (1 : Int32))] [])) := R232.trans (by
          refine XS.icmpYes X198g.here hx rfl (pc0 := 221) (pc' := 230) rfl (hb hby at_221) rfl (teq hc221).1 (by decide) (by decide) ?_
          exact Steps.refl _)
        exact ⟨(1 : Int32), (by rw [if_pos hc221]), K233⟩
      · have K234 : Steps p.tables e below _ (T198.setTop (mkF m 230 #[.val (.int p0), .val (.int p1), .val (.int p2), .val (.int p3), .val (.int p4), .val (.int xa), .val (.int ya), .val (.int za), .val (.int wa), .val (.int (2 : Int32)), .val (.ref b6), .val (.int v225_0), .val (.int r189), .val (.int r194), .val (.int r199), .val (.int v218_0), .val (.int (2 : Int32))] [])) := R232.trans (by
          refine XS.icmpNo X198g.here hx rfl (hb hby at_221) rfl (feq hc221).1 ?_
          refine XS.iload X198g.here hx rfl (hb hby at_224) rfl ?_
          refine XS.iconst X198g.here hx rfl (hb hby at_226) ?_
          refine XS.iadd X198g.here hx rfl (hb hby at_227) rfl ?_
          refine XS.istore X198g.here hx rfl (hb hby at_228) rfl (l' := #[.val (.int p0), .val (.int p1), .val (.int p2), .val (.int p3), .val (.int p4), .val (.int xa), .val (.int ya), .val (.int za), .val (.int wa), .val (.int (2 : Int32)), .val (.ref b6), .val (.int v225_0), .val (.int r189), .val (.int r194), .val (.int r199), .val (.int v218_0), .val (.int (2 : Int32))]) rfl ?_
          show Steps p.tables e below (T198.setTop (mkF m 230 #[.val (.int p0), .val (.int p1), .val (.int p2), .val (.int p3), .val (.int p4), .val (.int xa), .val (.int ya), .val (.int za), .val (.int wa), .val (.int (2 : Int32)), .val (.ref b6), .val (.int v225_0), .val (.int r189), .val (.int r194), .val (.int r199), .val (.int v218_0), .val (.int (2 : Int32))] [])) _
          exact Steps.refl _)
        exact ⟨(2 : Int32), (by rw [if_neg hc221]), K234⟩
    have K235 := K231.trans S232
    have K236 : Steps p.tables e below _ (T198.setTop (mkF m 232 #[.val (.int p0), .val (.int p1), .val (.int p2), .val (.int p3), .val (.int p4), .val (.int xa), .val (.int ya), .val (.int za), .val (.int wa), .val (.int (2 : Int32)), .val (.ref b6), .val (.int v225_0), .val (.int r189), .val (.int r194), .val (.int r199), .val (.int v218_0), .val (.int v232_0)] [(.int v218_0)])) := K235.trans (by
      refine XS.iload X198g.here hx rfl (hb hby at_230) rfl ?_
      exact Steps.refl _)
    obtain ⟨v237_0, hv237_0, S237⟩ : ∃ (v237_0 : Int32), (if v218_0 = (0 : Int32) then v232_0 else (v232_0 + (1 : Int32))) = v237_0 ∧ Steps p.tables e below (T198.setTop (mkF m 232 #[.val (.int p0), .val (.int p1), .val (.int p2), .val (.int p3), .val (.int p4), .val (.int xa), .val (.int ya), .val (.int za), .val (.int wa), .val (.int (2 : Int32)), .val (.ref b6), .val (.int v225_0), .val (.int r189), .val (.int r194), .val (.int r199), .val (.int v218_0), .val (.int v232_0)] [(.int v218_0)])) (T198.setTop (mkF m 241 #[.val (.int p0), .val (.int p1), .val (.int p2), .val (.int p3), .val (.int p4), .val (.int xa), .val (.int ya), .val (.int za), .val (.int wa), .val (.int (2 : Int32)), .val (.ref b6), .val (.int v225_0), .val (.int r189), .val (.int r194), .val (.int r199), .val (.int v218_0), .val (.int v237_0)] [])) := by
      have R237 := Steps.refl (tb := p.tables) (e := e) (below := below) (T198.setTop (mkF m 232 #[.val (.int p0), .val (.int p1), .val (.int p2), .val (.int p3), .val (.int p4), .val (.int xa), .val (.int ya), .val (.int za), .val (.int wa), .val (.int (2 : Int32)), .val (.ref b6), .val (.int v225_0), .val (.int r189), .val (.int r194), .val (.int r199), .val (.int v218_0), .val (.int v232_0)] [(.int v218_0)]))
      by_cases hc232 : v218_0 = (0 : Int32)
      · have K238 : Steps p.tables e below _ (T198.setTop (mkF m 241 #[.val (.int p0), .val (.int p1), .val (.int p2), .val (.int p3), .val (.int p4), .val (.int xa), .val (.int ya), .val (.int za), .val (.int wa), .val (.int (2 : Int32)), .val (.ref b6), .val (.int v225_0), .val (.int r189), .val (.int r194), .val (.int r199), .val (.int v218_0), .val (.int v232_0)] [])) := R237.trans (by
          refine XS.ifYes X198g.here hx rfl (pc0 := 232) (pc' := 241) rfl (hb hby at_232) rfl ((if0 _ _).trans (teq hc232).1) (by decide) (by decide) ?_
          exact Steps.refl _)
        exact ⟨v232_0, (by rw [if_pos hc232]), K238⟩
      · have K239 : Steps p.tables e below _ (T198.setTop (mkF m 241 #[.val (.int p0), .val (.int p1), .val (.int p2), .val (.int p3), .val (.int p4), .val (.int xa), .val (.int ya), .val (.int za), .val (.int wa), .val (.int (2 : Int32)), .val (.ref b6), .val (.int v225_0), .val (.int r189), .val (.int r194), .val (.int r199), .val (.int v218_0), .val (.int (v232_0 + (1 : Int32)))] [])) := R237.trans (by
          refine XS.ifNo X198g.here hx rfl (hb hby at_232) rfl ((if0 _ _).trans (feq hc232).1) ?_
          refine XS.iload X198g.here hx rfl (hb hby at_235) rfl ?_
          refine XS.iconst X198g.here hx rfl (hb hby at_237) ?_
          refine XS.iadd X198g.here hx rfl (hb hby at_238) rfl ?_
          refine XS.istore X198g.here hx rfl (hb hby at_239) rfl (l' := #[.val (.int p0), .val (.int p1), .val (.int p2), .val (.int p3), .val (.int p4), .val (.int xa), .val (.int ya), .val (.int za), .val (.int wa), .val (.int (2 : Int32)), .val (.ref b6), .val (.int v225_0), .val (.int r189), .val (.int r194), .val (.int r199), .val (.int v218_0), .val (.int (v232_0 + (1 : Int32)))]) rfl ?_
          show Steps p.tables e below (T198.setTop (mkF m 241 #[.val (.int p0), .val (.int p1), .val (.int p2), .val (.int p3), .val (.int p4), .val (.int xa), .val (.int ya), .val (.int za), .val (.int wa), .val (.int (2 : Int32)), .val (.ref b6), .val (.int v225_0), .val (.int r189), .val (.int r194), .val (.int r199), .val (.int v218_0), .val (.int (v232_0 + (1 : Int32)))] [])) _
          exact Steps.refl _)
        exact ⟨(v232_0 + (1 : Int32)), (by rw [if_neg hc232]), K239⟩
    have K240 := K236.trans S237
    have K241 : Steps p.tables e below _ (T198.setTop (mkF m 243 #[.val (.int p0), .val (.int p1), .val (.int p2), .val (.int p3), .val (.int p4), .val (.int xa), .val (.int ya), .val (.int za), .val (.int wa), .val (.int (2 : Int32)), .val (.ref b6), .val (.int v225_0), .val (.int r189), .val (.int r194), .val (.int r199), .val (.int v218_0), .val (.int v237_0)] [(.int v225_0)])) := K240.trans (by
      refine XS.iload X198g.here hx rfl (hb hby at_241) rfl ?_
      exact Steps.refl _)
    obtain ⟨T242, L242, v242_0, X242, e242, N242, hv242_0, S242⟩ : ∃ (T242 : State) (L242 : List Loc) (v242_0 : Int32), Stand p l e room_1 s m #[(.int p0), (.int p1), (.int p2), (.int p3), (.int p4)] below meth c T242 L242 8 (40 + 2 * z2_198.toNatClampNeg) ∧ T242.heap = T198.heap ∧ Fr n0 L242 ∧ (if v225_0 = (0 : Int32) then (0 : Int32) else (if n2_198 = v237_0 then (1 : Int32) else (0 : Int32))) = v242_0 ∧ Steps p.tables e below (T198.setTop (mkF m 243 #[.val (.int p0), .val (.int p1), .val (.int p2), .val (.int p3), .val (.int p4), .val (.int xa), .val (.int ya), .val (.int za), .val (.int wa), .val (.int (2 : Int32)), .val (.ref b6), .val (.int v225_0), .val (.int r189), .val (.int r194), .val (.int r199), .val (.int v218_0), .val (.int v237_0)] [(.int v225_0)])) (T242.setTop (mkF m 261 #[.val (.int p0), .val (.int p1), .val (.int p2), .val (.int p3), .val (.int p4), .val (.int xa), .val (.int ya), .val (.int za), .val (.int wa), .val (.int (2 : Int32)), .val (.ref b6), .val (.int v225_0), .val (.int r189), .val (.int r194), .val (.int r199), .val (.int v218_0), .val (.int v237_0)] [(.int v242_0)])) := by
      have R242 := Steps.refl (tb := p.tables) (e := e) (below := below) (T198.setTop (mkF m 243 #[.val (.int p0), .val (.int p1), .val (.int p2), .val (.int p3), .val (.int p4), .val (.int xa), .val (.int ya), .val (.int za), .val (.int wa), .val (.int (2 : Int32)), .val (.ref b6), .val (.int v225_0), .val (.int r189), .val (.int r194), .val (.int r199), .val (.int v218_0), .val (.int v237_0)] [(.int v225_0)]))
      by_cases hc243 : v225_0 = (0 : Int32)
      · have K243 : Steps p.tables e below _ (T198.setTop (mkF m 261 #[.val (.int p0), .val (.int p1), .val (.int p2), .val (.int p3), .val (.int p4), .val (.int xa), .val (.int ya), .val (.int za), .val (.int wa), .val (.int (2 : Int32)), .val (.ref b6), .val (.int v225_0), .val (.int r189), .val (.int r194), .val (.int r199), .val (.int v218_0), .val (.int v237_0)] [(.int (0 : Int32))])) := R242.trans (by
          refine XS.ifYes X198g.here hx rfl (pc0 := 243) (pc' := 260) rfl (hb hby at_243) rfl ((if0 _ _).trans (teq hc243).1) (by decide) (by decide) ?_
          refine XS.iconst X198g.here hx rfl (hb hby at_260) ?_
          exact Steps.refl _)
        exact ⟨T198, _, (0 : Int32), X198g, rfl, Ng198, (by rw [if_pos hc243]), K243⟩
      · have K244 : Steps p.tables e below _ (T198.setTop (mkF m 248 #[.val (.int p0), .val (.int p1), .val (.int p2), .val (.int p3), .val (.int p4), .val (.int xa), .val (.int ya), .val (.int za), .val (.int wa), .val (.int (2 : Int32)), .val (.ref b6), .val (.int v225_0), .val (.int r189), .val (.int r194), .val (.int r199), .val (.int v218_0), .val (.int v237_0)] [(.ref b6)])) := R242.trans (by
          refine XS.ifNo X198g.here hx rfl (hb hby at_243) rfl ((if0 _ _).trans (feq hc243).1) ?_
          refine XS.aload X198g.here hx rfl (hb hby at_246) rfl rfl ?_
          exact Steps.refl _)
        have Z_245 : n0 ≤ T198.heap.size := (Nat.le_trans Z_197 Kp198.1)
        obtain ⟨cq246, kq246, q246a, q246b, q246c⟩ := isOf hZ rfl Q198_0
        obtain ⟨_, _, ⟨T246, L246, k246, n246⟩, -, X246, ⟨Lc246, hQ246, l246, y246, z246⟩, st246⟩ := X198g.virtualBack hx (y := (⟨"com/example/futures_from_states/futuresfromstates/model/StateSet", "size", "()I"⟩ : MethodName)) (z := (⟨"com/example/futures_from_states/futuresfromstates/model/StateSet", "size", "()I"⟩ : MethodName)) hown (mvT hZ (hw _ (List.mem_of_getElem? (i := 23) rfl))) (mvT hZ (hw _ (List.mem_of_getElem? (i := 24) rfl))) (notFace_of_selects (args := #[]) (mvT hZ (hw _ (List.mem_of_getElem? (i := 26) rfl)))) (mvT hZ (hw _ (List.mem_of_getElem? (i := 26) rfl))) (mvT hZ (hw _ (List.mem_of_getElem? (i := 25) rfl))) (by decide) (backOf (W := 0) (rm4 l Z a0 hw [] b6 n2_198 T198.heap n0 Z_245 Q198_3) hZ (hw _ (List.mem_of_getElem? (i := 27) rfl)) (hw _ (List.mem_of_getElem? (i := 3) rfl)) (by exact Nat.le_of_ble_eq_true rfl) (by exact Nat.le_of_ble_eq_true rfl)) q246a q246c (g := (mkF m 248 #[.val (.int p0), .val (.int p1), .val (.int p2), .val (.int p3), .val (.int p4), .val (.int xa), .val (.int ya), .val (.int za), .val (.int wa), .val (.int (2 : Int32)), .val (.ref b6), .val (.int v225_0), .val (.int r189), .val (.int r194), .val (.int r199), .val (.int v218_0), .val (.int v237_0)] [(.ref b6)])) rfl (by rw [hml]; rfl) K244 (argsL := []) (rest := []) (lenOf pd_3 rfl) rfl (by show 2 * 0 + _ ≤ _; exact Nat.le_of_eq rfl) (hb hby at_248) (fun _ _ => ⟨rfl, rfl, (by exact Nat.le_of_ble_eq_true rfl), (own_fin0 eq198_9)⟩)
        dsimp only [Pt.U, Pt.locs, Pt.cells, Pt.slots] at X246 l246 y246 z246 st246 hQ246
        subst l246 y246 z246
        obtain ⟨rfl, N246, eh246⟩ := hQ246
        have N246' := Fr.app Ng198 N246
        obtain ⟨Lg246, Xg246, Ng246⟩ : ∃ Lg, Stand p l e room_1 s m #[(.int p0), (.int p1), (.int p2), (.int p3), (.int p4)] below meth c T246 Lg 8 (40 + 2 * z2_198.toNatClampNeg) ∧ Fr n0 Lg := ⟨_, X246, N246'⟩
        have K247 : Steps p.tables e below _ (T246.setTop (mkF m 251 #[.val (.int p0), .val (.int p1), .val (.int p2), .val (.int p3), .val (.int p4), .val (.int xa), .val (.int ya), .val (.int za), .val (.int wa), .val (.int (2 : Int32)), .val (.ref b6), .val (.int v225_0), .val (.int r189), .val (.int r194), .val (.int r199), .val (.int v218_0), .val (.int v237_0)] [(.int n2_198)])) := st246
        have K248 : Steps p.tables e below _ (T246.setTop (mkF m 253 #[.val (.int p0), .val (.int p1), .val (.int p2), .val (.int p3), .val (.int p4), .val (.int xa), .val (.int ya), .val (.int za), .val (.int wa), .val (.int (2 : Int32)), .val (.ref b6), .val (.int v225_0), .val (.int r189), .val (.int r194), .val (.int r199), .val (.int v218_0), .val (.int v237_0)] [(.int v237_0), (.int n2_198)])) := K247.trans (by
          refine XS.iload Xg246.here hx rfl (hb hby at_251) rfl ?_
          exact Steps.refl _)
        by_cases hc253 : n2_198 = v237_0
        · have K249 : Steps p.tables e below _ (T246.setTop (mkF m 261 #[.val (.int p0), .val (.int p1), .val (.int p2), .val (.int p3), .val (.int p4), .val (.int xa), .val (.int ya), .val (.int za), .val (.int wa), .val (.int (2 : Int32)), .val (.ref b6), .val (.int v225_0), .val (.int r189), .val (.int r194), .val (.int r199), .val (.int v218_0), .val (.int v237_0)] [(.int (1 : Int32))])) := K248.trans (by
            refine XS.icmpNo Xg246.here hx rfl (hb hby at_253) rfl (teq hc253).2 ?_
            refine XS.iconst Xg246.here hx rfl (hb hby at_256) ?_
            refine XS.goto Xg246.here hx rfl (pc0 := 257) (pc' := 261) rfl (hb hby at_257) (by decide) (by decide) ?_
            exact Steps.refl _)
          exact ⟨T246, _, (1 : Int32), Xg246, eh246, Ng246, (by rw [if_neg hc243, if_pos hc253]), K249⟩
        · have K250 : Steps p.tables e below _ (T246.setTop (mkF m 261 #[.val (.int p0), .val (.int p1), .val (.int p2), .val (.int p3), .val (.int p4), .val (.int xa), .val (.int ya), .val (.int za), .val (.int wa), .val (.int (2 : Int32)), .val (.ref b6), .val (.int v225_0), .val (.int r189), .val (.int r194), .val (.int r199), .val (.int v218_0), .val (.int v237_0)] [(.int (0 : Int32))])) := K248.trans (by
            refine XS.icmpYes Xg246.here hx rfl (pc0 := 253) (pc' := 260) rfl (hb hby at_253) rfl (feq hc253).2 (by decide) (by decide) ?_
            refine XS.iconst Xg246.here hx rfl (hb hby at_260) ?_
            exact Steps.refl _)
          exact ⟨T246, _, (0 : Int32), Xg246, eh246, Ng246, (by rw [if_neg hc243, if_neg hc253]), K250⟩
    have K251 := K241.trans S242
    have K252 : Steps p.tables e below _ (T242.setTop (mkF m 265 #[.val (.int p0), .val (.int p1), .val (.int p2), .val (.int p3), .val (.int p4), .val (.int xa), .val (.int ya), .val (.int za), .val (.int wa), .val (.int (2 : Int32)), .val (.ref b6), .val (.int v242_0), .val (.int r189), .val (.int r194), .val (.int r199), .val (.int v218_0), .val (.int v237_0)] [(.int v242_0)])) := K251.trans (by
      refine XS.istore X242.here hx rfl (hb hby at_261) rfl (l' := #[.val (.int p0), .val (.int p1), .val (.int p2), .val (.int p3), .val (.int p4), .val (.int xa), .val (.int ya), .val (.int za), .val (.int wa), .val (.int (2 : Int32)), .val (.ref b6), .val (.int v242_0), .val (.int r189), .val (.int r194), .val (.int r199), .val (.int v218_0), .val (.int v237_0)]) rfl ?_
      refine XS.iload X242.here hx rfl (hb hby at_263) rfl ?_
      exact Steps.refl _)
    have hone : (v242_0 &&& 1) = (1 : Int32) := own_law_2 p0 p1 p2 p3 p4 xa ya za wa r171 n2_170 r176 n2_175 r189 n2_188 r194 n2_193 r199 n2_198 v202_0 v207_0 v218_0 v225_0 v232_0 v237_0 v242_0 hxa hya hza hwa hr171 hnn170 hr176 hnn175 hr189 hnn188 hr194 hnn193 hr199 hnn198 hv202_0 hv207_0 hv218_0 hv225_0 hv232_0 hv237_0 hv242_0
    obtain ⟨fs, hr, hrun, hended, hW, hsame⟩ := X242.leave (v := some (.int (v242_0 &&& 1))) (fun h => by rw [Bd.returns] at h; cases h)
    exact ⟨_, _, K252.trans (retN X242 hx (t := .boolean) Bd.returns (by simp) (hb hby at_265) hr), hrun, hended, _, _, rfl, ⟨by rw [hone], N242⟩, ⟨_, rfl⟩, hW, hsame.mono (by decide) (own_fin eq198_9)⟩
  · rw [hn] at K12
    have K253 : Steps p.tables e below _ (T10.setTop (mkF m 49 #[.val (.int p0), .val (.int p1), .val (.int p2), .val (.int p3), .val (.int p4), .val (.int xa), .val (.int ya), .val (.int za), .val (.int wa), .val (.int (3 : Int32)), .val (.ref b6), .unset, .unset, .unset, .unset, .unset, .unset] [(.int xa), (.ref b6)])) := K12.trans (by
      refine XS.iload X10g.here hx rfl (hb hby at_39) rfl ?_
      refine XS.iconst X10g.here hx rfl (hb hby at_41) ?_
      refine XS.icmpNo X10g.here hx rfl (hb hby at_42) rfl (flt (by decide : ¬ ((3 : Int32) < (1 : Int32)))).1 ?_
      refine XS.aload X10g.here hx rfl (hb hby at_45) rfl rfl ?_
      refine XS.iload X10g.here hx rfl (hb hby at_47) rfl ?_
      show Steps p.tables e below (T10.setTop (mkF m 49 #[.val (.int p0), .val (.int p1), .val (.int p2), .val (.int p3), .val (.int p4), .val (.int xa), .val (.int ya), .val (.int za), .val (.int wa), .val (.int (3 : Int32)), .val (.ref b6), .unset, .unset, .unset, .unset, .unset, .unset] [(.int xa), (.ref b6)])) _
      exact Steps.refl _)
    have Z_254 : n0 ≤ T10.heap.size := (Nat.le_trans Z_9 Kp10.1)
    obtain ⟨cq255, kq255, q255a, q255b, q255c⟩ := isOf hZ rfl Q10_0
    obtain ⟨_, _, ⟨T255, L255, k255, n255⟩, -, X255, ⟨Lc255, hQ255, l255, y255, z255⟩, st255⟩ := X10g.virtualBack hx (y := (⟨"com/example/futures_from_states/futuresfromstates/model/StateSet", "add", "(I)Z"⟩ : MethodName)) (z := (⟨"com/example/futures_from_states/futuresfromstates/model/StateSet", "add", "(I)Z"⟩ : MethodName)) hown (mvT hZ (hw _ (List.mem_of_getElem? (i := 28) rfl))) (mvT hZ (hw _ (List.mem_of_getElem? (i := 29) rfl))) (notFace_of_selects (args := #[]) (mvT hZ (hw _ (List.mem_of_getElem? (i := 31) rfl)))) (mvT hZ (hw _ (List.mem_of_getElem? (i := 31) rfl))) (mvT hZ (hw _ (List.mem_of_getElem? (i := 30) rfl))) (by decide) (backOf (W := 0) (rm5 l Z a0 hw [] b6 xa b10_b5 b10_b12 k5_10 k12_10 (1 : Int32) ([(.long (0 : Int64))]) ([(.int (0 : Int32)), (.int (0 : Int32)), (.int (0 : Int32)), (.int (0 : Int32)), (.int (0 : Int32)), (.int (0 : Int32)), (.int (0 : Int32)), (.int (0 : Int32)), (.int (0 : Int32)), (.int (0 : Int32)), (.int (0 : Int32)), (.int (0 : Int32)), (.int (0 : Int32)), (.int (0 : Int32)), (.int (0 : Int32)), (.int (0 : Int32))]) (0 : Int32) ([]) T10.heap n0 Z_254 Q10_0 Q10_4 Q10_7 Q10_1 Q10_2 Q10_5 ne_b6_b10_b5 ne_b6_b10_b12 ne10_10 ge_b6 ge_b10_b5 ge_b10_b12 (hI0) (own_okp hxa) (own_e0)) hZ (hw _ (List.mem_of_getElem? (i := 32) rfl)) (hw _ (List.mem_of_getElem? (i := 3) rfl)) (by exact Nat.le_of_ble_eq_true rfl) (by exact Nat.le_of_ble_eq_true rfl)) q255a q255c (g := (mkF m 49 #[.val (.int p0), .val (.int p1), .val (.int p2), .val (.int p3), .val (.int p4), .val (.int xa), .val (.int ya), .val (.int za), .val (.int wa), .val (.int (3 : Int32)), .val (.ref b6), .unset, .unset, .unset, .unset, .unset, .unset] [(.int xa), (.ref b6)])) rfl (by rw [hml]; rfl) K253 (argsL := [(.int xa)]) (rest := []) (lenOf pd_4 rfl) rfl (by show 2 * 0 + _ ≤ _; exact Nat.le_of_eq rfl) (hb hby at_49) (fun _ _ => ⟨rfl, rfl, (by exact Nat.le_of_ble_eq_true rfl), (own_room hI0 (own_okp hxa))⟩)
    dsimp only [Pt.U, Pt.locs, Pt.cells, Pt.slots] at X255 l255 y255 z255 st255 hQ255
    subst l255 y255 z255
    obtain ⟨ba2_255, kb2_255, z2_255, vs2_255, vm2_255, n2_255, rfl, N255, Kp255, Q255_0, Q255_1, Q255_2, Q255_3, Q255_4, Q255_5, ne255_6, ne255_7, ge255_8, eq255_9, eq255_10⟩ := hQ255
    have N255' := Fr.app Ng10 N255
    obtain ⟨Lg255, Xg255, Ng255⟩ : ∃ Lg, Stand p l e room_1 s m #[(.int p0), (.int p1), (.int p2), (.int p3), (.int p4)] below meth c T255 Lg 4 ((40 + 2 * (1 : Int32).toNatClampNeg) + (own_NN (1 : Int32) xa)) ∧ Fr n0 Lg := ⟨_, X255, N255'⟩
    have K257 : Steps p.tables e below _ (T255.setTop (mkF m 52 #[.val (.int p0), .val (.int p1), .val (.int p2), .val (.int p3), .val (.int p4), .val (.int xa), .val (.int ya), .val (.int za), .val (.int wa), .val (.int (3 : Int32)), .val (.ref b6), .unset, .unset, .unset, .unset, .unset, .unset] [(.int (own_ret ([]) xa))])) := st255
    obtain ⟨r256, hr256⟩ : ∃ zq : Int32, (own_ret ([]) xa) = zq := ⟨_, rfl⟩
    rw [hr256] at K257
    have X255g := own_grow (slots' := 40 + 2 * z2_255.toNatClampNeg) Xg255 (Nat.le_refl _) (own_pot2 eq255_10)
    have hnn255 : own_ln (own_addS [] xa) = n2_255 := own_inv_len eq255_9
    have K258 : Steps p.tables e below _ (T255.setTop (mkF m 63 #[.val (.int p0), .val (.int p1), .val (.int p2), .val (.int p3), .val (.int p4), .val (.int xa), .val (.int ya), .val (.int za), .val (.int wa), .val (.int (3 : Int32)), .val (.ref b6), .unset, .unset, .unset, .unset, .unset, .unset] [(.int ya), (.ref b6)])) := K257.trans (by
      refine XS.pop X255g.here hx rfl (hb hby at_52) rfl rfl ?_
      refine XS.iload X255g.here hx rfl (hb hby at_53) rfl ?_
      refine XS.iconst X255g.here hx rfl (hb hby at_55) ?_
      refine XS.icmpNo X255g.here hx rfl (hb hby at_56) rfl (flt (by decide : ¬ ((3 : Int32) < (2 : Int32)))).1 ?_
      refine XS.aload X255g.here hx rfl (hb hby at_59) rfl rfl ?_
      show Steps p.tables e below (T255.setTop (mkF m 61 #[.val (.int p0), .val (.int p1), .val (.int p2), .val (.int p3), .val (.int p4), .val (.int xa), .val (.int ya), .val (.int za), .val (.int wa), .val (.int (3 : Int32)), .val (.ref b6), .unset, .unset, .unset, .unset, .unset, .unset] [(.ref b6)])) _
      refine XS.iload X255g.here hx rfl (hb hby at_61) rfl ?_
      exact Steps.refl _)
    have Z_259 : n0 ≤ T255.heap.size := (Nat.le_trans Z_254 Kp255.1)
    obtain ⟨cq260, kq260, q260a, q260b, q260c⟩ := isOf hZ rfl Q255_0
    obtain ⟨_, _, ⟨T260, L260, k260, n260⟩, -, X260, ⟨Lc260, hQ260, l260, y260, z260⟩, st260⟩ := X255g.virtualBack hx (y := (⟨"com/example/futures_from_states/futuresfromstates/model/StateSet", "add", "(I)Z"⟩ : MethodName)) (z := (⟨"com/example/futures_from_states/futuresfromstates/model/StateSet", "add", "(I)Z"⟩ : MethodName)) hown (mvT hZ (hw _ (List.mem_of_getElem? (i := 28) rfl))) (mvT hZ (hw _ (List.mem_of_getElem? (i := 29) rfl))) (notFace_of_selects (args := #[]) (mvT hZ (hw _ (List.mem_of_getElem? (i := 31) rfl)))) (mvT hZ (hw _ (List.mem_of_getElem? (i := 31) rfl))) (mvT hZ (hw _ (List.mem_of_getElem? (i := 30) rfl))) (by decide) (backOf (W := 0) (rm5 l Z a0 hw [] b6 ya ba2_255 b10_b12 kb2_255 k12_10 z2_255 vs2_255 vm2_255 n2_255 (own_addS [] xa) T255.heap n0 Z_259 Q255_0 Q255_1 Q255_2 Q255_3 Q255_4 Q255_5 ne255_6 ne_b6_b10_b12 ne255_7 ge_b6 ge255_8 ge_b10_b12 (eq255_9) (own_okp hya) (own_e1 _)) hZ (hw _ (List.mem_of_getElem? (i := 32) rfl)) (hw _ (List.mem_of_getElem? (i := 3) rfl)) (by exact Nat.le_of_ble_eq_true rfl) (by exact Nat.le_of_ble_eq_true rfl)) q260a q260c (g := (mkF m 63 #[.val (.int p0), .val (.int p1), .val (.int p2), .val (.int p3), .val (.int p4), .val (.int xa), .val (.int ya), .val (.int za), .val (.int wa), .val (.int (3 : Int32)), .val (.ref b6), .unset, .unset, .unset, .unset, .unset, .unset] [(.int ya), (.ref b6)])) rfl (by rw [hml]; rfl) K258 (argsL := [(.int ya)]) (rest := []) (lenOf pd_4 rfl) rfl (by show 2 * 0 + _ ≤ _; exact Nat.le_of_eq rfl) (hb hby at_63) (fun _ _ => ⟨rfl, rfl, (by exact Nat.le_of_ble_eq_true rfl), (own_room eq255_9 (own_okp hya))⟩)
    dsimp only [Pt.U, Pt.locs, Pt.cells, Pt.slots] at X260 l260 y260 z260 st260 hQ260
    subst l260 y260 z260
    obtain ⟨ba2_260, kb2_260, z2_260, vs2_260, vm2_260, n2_260, rfl, N260, Kp260, Q260_0, Q260_1, Q260_2, Q260_3, Q260_4, Q260_5, ne260_6, ne260_7, ge260_8, eq260_9, eq260_10⟩ := hQ260
    have N260' := Fr.app Ng255 N260
    obtain ⟨Lg260, Xg260, Ng260⟩ : ∃ Lg, Stand p l e room_1 s m #[(.int p0), (.int p1), (.int p2), (.int p3), (.int p4)] below meth c T260 Lg 5 ((40 + 2 * z2_255.toNatClampNeg) + (own_NN z2_255 ya)) ∧ Fr n0 Lg := ⟨_, X260, N260'⟩
    have K262 : Steps p.tables e below _ (T260.setTop (mkF m 66 #[.val (.int p0), .val (.int p1), .val (.int p2), .val (.int p3), .val (.int p4), .val (.int xa), .val (.int ya), .val (.int za), .val (.int wa), .val (.int (3 : Int32)), .val (.ref b6), .unset, .unset, .unset, .unset, .unset, .unset] [(.int (own_ret (own_addS [] xa) ya))])) := st260
    obtain ⟨r261, hr261⟩ : ∃ zq : Int32, (own_ret (own_addS [] xa) ya) = zq := ⟨_, rfl⟩
    rw [hr261] at K262
    have X260g := own_grow (slots' := 40 + 2 * z2_260.toNatClampNeg) Xg260 (Nat.le_refl _) (own_pot2 eq260_10)
    have hnn260 : own_ln (own_addS (own_addS [] xa) ya) = n2_260 := own_inv_len eq260_9
    have K263 : Steps p.tables e below _ (T260.setTop (mkF m 77 #[.val (.int p0), .val (.int p1), .val (.int p2), .val (.int p3), .val (.int p4), .val (.int xa), .val (.int ya), .val (.int za), .val (.int wa), .val (.int (3 : Int32)), .val (.ref b6), .unset, .unset, .unset, .unset, .unset, .unset] [(.int za), (.ref b6)])) := K262.trans (by
      refine XS.pop X260g.here hx rfl (hb hby at_66) rfl rfl ?_
      refine XS.iload X260g.here hx rfl (hb hby at_67) rfl ?_
      refine XS.iconst X260g.here hx rfl (hb hby at_69) ?_
      refine XS.icmpNo X260g.here hx rfl (hb hby at_70) rfl (flt (by decide : ¬ ((3 : Int32) < (3 : Int32)))).1 ?_
      refine XS.aload X260g.here hx rfl (hb hby at_73) rfl rfl ?_
      show Steps p.tables e below (T260.setTop (mkF m 75 #[.val (.int p0), .val (.int p1), .val (.int p2), .val (.int p3), .val (.int p4), .val (.int xa), .val (.int ya), .val (.int za), .val (.int wa), .val (.int (3 : Int32)), .val (.ref b6), .unset, .unset, .unset, .unset, .unset, .unset] [(.ref b6)])) _
      refine XS.iload X260g.here hx rfl (hb hby at_75) rfl ?_
      exact Steps.refl _)
    have Z_264 : n0 ≤ T260.heap.size := (Nat.le_trans Z_259 Kp260.1)
    obtain ⟨cq265, kq265, q265a, q265b, q265c⟩ := isOf hZ rfl Q260_0
    obtain ⟨_, _, ⟨T265, L265, k265, n265⟩, -, X265, ⟨Lc265, hQ265, l265, y265, z265⟩, st265⟩ := X260g.virtualBack hx (y := (⟨"com/example/futures_from_states/futuresfromstates/model/StateSet", "add", "(I)Z"⟩ : MethodName)) (z := (⟨"com/example/futures_from_states/futuresfromstates/model/StateSet", "add", "(I)Z"⟩ : MethodName)) hown (mvT hZ (hw _ (List.mem_of_getElem? (i := 28) rfl))) (mvT hZ (hw _ (List.mem_of_getElem? (i := 29) rfl))) (notFace_of_selects (args := #[]) (mvT hZ (hw _ (List.mem_of_getElem? (i := 31) rfl)))) (mvT hZ (hw _ (List.mem_of_getElem? (i := 31) rfl))) (mvT hZ (hw _ (List.mem_of_getElem? (i := 30) rfl))) (by decide) (backOf (W := 0) (rm5 l Z a0 hw [] b6 za ba2_260 b10_b12 kb2_260 k12_10 z2_260 vs2_260 vm2_260 n2_260 (own_addS (own_addS [] xa) ya) T260.heap n0 Z_264 Q260_0 Q260_1 Q260_2 Q260_3 Q260_4 Q260_5 ne260_6 ne_b6_b10_b12 ne260_7 ge_b6 ge260_8 ge_b10_b12 (eq260_9) (own_okp hza) (own_e2 _ _)) hZ (hw _ (List.mem_of_getElem? (i := 32) rfl)) (hw _ (List.mem_of_getElem? (i := 3) rfl)) (by exact Nat.le_of_ble_eq_true rfl) (by exact Nat.le_of_ble_eq_true rfl)) q265a q265c (g := (mkF m 77 #[.val (.int p0), .val (.int p1), .val (.int p2), .val (.int p3), .val (.int p4), .val (.int xa), .val (.int ya), .val (.int za), .val (.int wa), .val (.int (3 : Int32)), .val (.ref b6), .unset, .unset, .unset, .unset, .unset, .unset] [(.int za), (.ref b6)])) rfl (by rw [hml]; rfl) K263 (argsL := [(.int za)]) (rest := []) (lenOf pd_4 rfl) rfl (by show 2 * 0 + _ ≤ _; exact Nat.le_of_eq rfl) (hb hby at_77) (fun _ _ => ⟨rfl, rfl, (by exact Nat.le_of_ble_eq_true rfl), (own_room eq260_9 (own_okp hza))⟩)
    dsimp only [Pt.U, Pt.locs, Pt.cells, Pt.slots] at X265 l265 y265 z265 st265 hQ265
    subst l265 y265 z265
    obtain ⟨ba2_265, kb2_265, z2_265, vs2_265, vm2_265, n2_265, rfl, N265, Kp265, Q265_0, Q265_1, Q265_2, Q265_3, Q265_4, Q265_5, ne265_6, ne265_7, ge265_8, eq265_9, eq265_10⟩ := hQ265
    have N265' := Fr.app Ng260 N265
    obtain ⟨Lg265, Xg265, Ng265⟩ : ∃ Lg, Stand p l e room_1 s m #[(.int p0), (.int p1), (.int p2), (.int p3), (.int p4)] below meth c T265 Lg 6 ((40 + 2 * z2_260.toNatClampNeg) + (own_NN z2_260 za)) ∧ Fr n0 Lg := ⟨_, X265, N265'⟩
    have K267 : Steps p.tables e below _ (T265.setTop (mkF m 80 #[.val (.int p0), .val (.int p1), .val (.int p2), .val (.int p3), .val (.int p4), .val (.int xa), .val (.int ya), .val (.int za), .val (.int wa), .val (.int (3 : Int32)), .val (.ref b6), .unset, .unset, .unset, .unset, .unset, .unset] [(.int (own_ret (own_addS (own_addS [] xa) ya) za))])) := st265
    obtain ⟨r266, hr266⟩ : ∃ zq : Int32, (own_ret (own_addS (own_addS [] xa) ya) za) = zq := ⟨_, rfl⟩
    rw [hr266] at K267
    have X265g := own_grow (slots' := 40 + 2 * z2_265.toNatClampNeg) Xg265 (Nat.le_refl _) (own_pot2 eq265_10)
    have hnn265 : own_ln (own_addS (own_addS (own_addS [] xa) ya) za) = n2_265 := own_inv_len eq265_9
    have K268 : Steps p.tables e below _ (T265.setTop (mkF m 83 #[.val (.int p0), .val (.int p1), .val (.int p2), .val (.int p3), .val (.int p4), .val (.int xa), .val (.int ya), .val (.int za), .val (.int wa), .val (.int (3 : Int32)), .val (.ref b6), .unset, .unset, .unset, .unset, .unset, .unset] [(.ref b6)])) := K267.trans (by
      refine XS.pop X265g.here hx rfl (hb hby at_80) rfl rfl ?_
      refine XS.aload X265g.here hx rfl (hb hby at_81) rfl rfl ?_
      exact Steps.refl _)
    have Z_269 : n0 ≤ T265.heap.size := (Nat.le_trans Z_264 Kp265.1)
    obtain ⟨cq270, kq270, q270a, q270b, q270c⟩ := isOf hZ rfl Q265_0
    obtain ⟨_, _, ⟨T270, L270, k270, n270⟩, -, X270, ⟨Lc270, hQ270, l270, y270, z270⟩, st270⟩ := X265g.virtualBack hx (y := (⟨"com/example/futures_from_states/futuresfromstates/model/StateSet", "clear", "()V"⟩ : MethodName)) (z := (⟨"com/example/futures_from_states/futuresfromstates/model/StateSet", "clear", "()V"⟩ : MethodName)) hown (mvT hZ (hw _ (List.mem_of_getElem? (i := 16) rfl))) (mvT hZ (hw _ (List.mem_of_getElem? (i := 17) rfl))) (notFace_of_selects (args := #[]) (mvT hZ (hw _ (List.mem_of_getElem? (i := 19) rfl)))) (mvT hZ (hw _ (List.mem_of_getElem? (i := 19) rfl))) (mvT hZ (hw _ (List.mem_of_getElem? (i := 18) rfl))) (by decide) (backOf (W := 0) (rm3 l Z a0 hw [] b6 ba2_265 b10_b12 kb2_265 k12_10 z2_265 vs2_265 vm2_265 n2_265 (own_addS (own_addS (own_addS [] xa) ya) za) T265.heap n0 Z_269 Q265_0 Q265_1 Q265_2 Q265_3 Q265_4 Q265_5 ne265_6 ne_b6_b10_b12 ne265_7 ge_b6 ge265_8 (eq265_9) (own_e3c _ _ _)) hZ (hw _ (List.mem_of_getElem? (i := 20) rfl)) (hw _ (List.mem_of_getElem? (i := 3) rfl)) (by exact Nat.le_of_ble_eq_true rfl) (by exact Nat.le_of_ble_eq_true rfl)) q270a q270c (g := (mkF m 83 #[.val (.int p0), .val (.int p1), .val (.int p2), .val (.int p3), .val (.int p4), .val (.int xa), .val (.int ya), .val (.int za), .val (.int wa), .val (.int (3 : Int32)), .val (.ref b6), .unset, .unset, .unset, .unset, .unset, .unset] [(.ref b6)])) rfl (by rw [hml]; rfl) K268 (argsL := []) (rest := []) (lenOf pd_2 rfl) rfl (by show 2 * 0 + _ ≤ _; exact Nat.le_of_eq rfl) (hb hby at_83) (fun _ _ => ⟨rfl, rfl, (by exact Nat.le_of_ble_eq_true rfl), (own_fin0 eq265_9)⟩)
    dsimp only [Pt.U, Pt.locs, Pt.cells, Pt.slots] at X270 l270 y270 z270 st270 hQ270
    subst l270 y270 z270
    obtain ⟨vs2_270, rfl, N270, Kp270, Q270_0, Q270_1, Q270_2, Q270_3, Q270_4, eq270_5⟩ := hQ270
    have N270' := Fr.app Ng265 N270
    obtain ⟨Lg270, Xg270, Ng270⟩ : ∃ Lg, Stand p l e room_1 s m #[(.int p0), (.int p1), (.int p2), (.int p3), (.int p4)] below meth c T270 Lg 6 (40 + 2 * z2_265.toNatClampNeg) ∧ Fr n0 Lg := ⟨_, X270, N270'⟩
    have K271 : Steps p.tables e below _ (T270.setTop (mkF m 86 #[.val (.int p0), .val (.int p1), .val (.int p2), .val (.int p3), .val (.int p4), .val (.int xa), .val (.int ya), .val (.int za), .val (.int wa), .val (.int (3 : Int32)), .val (.ref b6), .unset, .unset, .unset, .unset, .unset, .unset] [])) := st270
    have K272 : Steps p.tables e below _ (T270.setTop (mkF m 88 #[.val (.int p0), .val (.int p1), .val (.int p2), .val (.int p3), .val (.int p4), .val (.int xa), .val (.int ya), .val (.int za), .val (.int wa), .val (.int (3 : Int32)), .val (.ref b6), .unset, .unset, .unset, .unset, .unset, .unset] [(.ref b6)])) := K271.trans (by
      refine XS.aload Xg270.here hx rfl (hb hby at_86) rfl rfl ?_
      exact Steps.refl _)
    have Z_273 : n0 ≤ T270.heap.size := (Nat.le_trans Z_269 Kp270.1)
    obtain ⟨cq274, kq274, q274a, q274b, q274c⟩ := isOf hZ rfl Q270_0
    obtain ⟨_, _, ⟨T274, L274, k274, n274⟩, -, X274, ⟨Lc274, hQ274, l274, y274, z274⟩, st274⟩ := Xg270.virtualBack hx (y := (⟨"com/example/futures_from_states/futuresfromstates/model/StateSet", "size", "()I"⟩ : MethodName)) (z := (⟨"com/example/futures_from_states/futuresfromstates/model/StateSet", "size", "()I"⟩ : MethodName)) hown (mvT hZ (hw _ (List.mem_of_getElem? (i := 23) rfl))) (mvT hZ (hw _ (List.mem_of_getElem? (i := 24) rfl))) (notFace_of_selects (args := #[]) (mvT hZ (hw _ (List.mem_of_getElem? (i := 26) rfl)))) (mvT hZ (hw _ (List.mem_of_getElem? (i := 26) rfl))) (mvT hZ (hw _ (List.mem_of_getElem? (i := 25) rfl))) (by decide) (backOf (W := 0) (rm4 l Z a0 hw [] b6 (0 : Int32) T270.heap n0 Z_273 Q270_3) hZ (hw _ (List.mem_of_getElem? (i := 27) rfl)) (hw _ (List.mem_of_getElem? (i := 3) rfl)) (by exact Nat.le_of_ble_eq_true rfl) (by exact Nat.le_of_ble_eq_true rfl)) q274a q274c (g := (mkF m 88 #[.val (.int p0), .val (.int p1), .val (.int p2), .val (.int p3), .val (.int p4), .val (.int xa), .val (.int ya), .val (.int za), .val (.int wa), .val (.int (3 : Int32)), .val (.ref b6), .unset, .unset, .unset, .unset, .unset, .unset] [(.ref b6)])) rfl (by rw [hml]; rfl) K272 (argsL := []) (rest := []) (lenOf pd_3 rfl) rfl (by show 2 * 0 + _ ≤ _; exact Nat.le_of_eq rfl) (hb hby at_88) (fun _ _ => ⟨rfl, rfl, (by exact Nat.le_of_ble_eq_true rfl), (own_fin0 eq270_5)⟩)
    dsimp only [Pt.U, Pt.locs, Pt.cells, Pt.slots] at X274 l274 y274 z274 st274 hQ274
    subst l274 y274 z274
    obtain ⟨rfl, N274, eh274⟩ := hQ274
    have N274' := Fr.app Ng270 N274
    obtain ⟨Lg274, Xg274, Ng274⟩ : ∃ Lg, Stand p l e room_1 s m #[(.int p0), (.int p1), (.int p2), (.int p3), (.int p4)] below meth c T274 Lg 6 (40 + 2 * z2_265.toNatClampNeg) ∧ Fr n0 Lg := ⟨_, X274, N274'⟩
    have K275 : Steps p.tables e below _ (T274.setTop (mkF m 91 #[.val (.int p0), .val (.int p1), .val (.int p2), .val (.int p3), .val (.int p4), .val (.int xa), .val (.int ya), .val (.int za), .val (.int wa), .val (.int (3 : Int32)), .val (.ref b6), .unset, .unset, .unset, .unset, .unset, .unset] [(.int (0 : Int32))])) := st274
    have K276 : Steps p.tables e below _ (T274.setTop (mkF m 105 #[.val (.int p0), .val (.int p1), .val (.int p2), .val (.int p3), .val (.int p4), .val (.int xa), .val (.int ya), .val (.int za), .val (.int wa), .val (.int (3 : Int32)), .val (.ref b6), .val (.int (1 : Int32)), .unset, .unset, .unset, .unset, .unset] [(.int ya), (.ref b6)])) := K275.trans (by
      refine XS.ifNo Xg274.here hx rfl (hb hby at_91) rfl ((if0 _ _).trans (teq (by decide : (0 : Int32) = (0 : Int32))).2) ?_
      refine XS.iconst Xg274.here hx rfl (hb hby at_94) ?_
      refine XS.goto Xg274.here hx rfl (pc0 := 95) (pc' := 99) rfl (hb hby at_95) (by decide) (by decide) ?_
      refine XS.istore Xg274.here hx rfl (hb hby at_99) rfl (l' := #[.val (.int p0), .val (.int p1), .val (.int p2), .val (.int p3), .val (.int p4), .val (.int xa), .val (.int ya), .val (.int za), .val (.int wa), .val (.int (3 : Int32)), .val (.ref b6), .val (.int (1 : Int32)), .unset, .unset, .unset, .unset, .unset]) rfl ?_
      refine XS.aload Xg274.here hx rfl (hb hby at_101) rfl rfl ?_
      show Steps p.tables e below (T274.setTop (mkF m 103 #[.val (.int p0), .val (.int p1), .val (.int p2), .val (.int p3), .val (.int p4), .val (.int xa), .val (.int ya), .val (.int za), .val (.int wa), .val (.int (3 : Int32)), .val (.ref b6), .val (.int (1 : Int32)), .unset, .unset, .unset, .unset, .unset] [(.ref b6)])) _
      refine XS.iload Xg274.here hx rfl (hb hby at_103) rfl ?_
      exact Steps.refl _)
    have V_277 : Arv Z T270.heap b10_b12 k12_10 .int (16 : Int32) vm2_265 (.int (0 : Int32)) := (Q265_5.keep Kp270 (ninS (Ne.symm ne_b6_b10_b12) (ninS (Ne.symm ne265_7) nin0)))
    obtain ⟨cq278, kq278, q278a, q278b, q278c⟩ := isOf hZ eh274 Q270_0
    obtain ⟨_, _, ⟨T278, L278, k278, n278⟩, -, X278, ⟨Lc278, hQ278, l278, y278, z278⟩, st278⟩ := Xg274.virtualBack hx (y := (⟨"com/example/futures_from_states/futuresfromstates/model/StateSet", "add", "(I)Z"⟩ : MethodName)) (z := (⟨"com/example/futures_from_states/futuresfromstates/model/StateSet", "add", "(I)Z"⟩ : MethodName)) hown (mvT hZ (hw _ (List.mem_of_getElem? (i := 28) rfl))) (mvT hZ (hw _ (List.mem_of_getElem? (i := 29) rfl))) (notFace_of_selects (args := #[]) (mvT hZ (hw _ (List.mem_of_getElem? (i := 31) rfl)))) (mvT hZ (hw _ (List.mem_of_getElem? (i := 31) rfl))) (mvT hZ (hw _ (List.mem_of_getElem? (i := 30) rfl))) (by decide) (backOf (W := 0) (rm5 l Z a0 hw [] b6 ya ba2_265 b10_b12 kb2_265 k12_10 z2_265 vs2_270 vm2_265 (0 : Int32) ([]) T270.heap n0 Z_273 Q270_0 Q270_1 Q270_2 Q270_3 Q270_4 V_277 ne265_6 ne_b6_b10_b12 ne265_7 ge_b6 ge265_8 ge_b10_b12 (eq270_5) (own_okp hya) (own_e0)) hZ (hw _ (List.mem_of_getElem? (i := 32) rfl)) (hw _ (List.mem_of_getElem? (i := 3) rfl)) (by exact Nat.le_of_ble_eq_true rfl) (by exact Nat.le_of_ble_eq_true rfl)) q278a q278c (g := (mkF m 105 #[.val (.int p0), .val (.int p1), .val (.int p2), .val (.int p3), .val (.int p4), .val (.int xa), .val (.int ya), .val (.int za), .val (.int wa), .val (.int (3 : Int32)), .val (.ref b6), .val (.int (1 : Int32)), .unset, .unset, .unset, .unset, .unset] [(.int ya), (.ref b6)])) rfl (by rw [hml]; rfl) K276 (argsL := [(.int ya)]) (rest := []) (lenOf pd_4 rfl) rfl (by show 2 * 0 + _ ≤ _; exact Nat.le_of_eq rfl) (hb hby at_105) (fun _ _ => ⟨rfl, eh274, (by exact Nat.le_of_ble_eq_true rfl), (own_room eq270_5 (own_okp hya))⟩)
    dsimp only [Pt.U, Pt.locs, Pt.cells, Pt.slots] at X278 l278 y278 z278 st278 hQ278
    subst l278 y278 z278
    obtain ⟨ba2_278, kb2_278, z2_278, vs2_278, vm2_278, n2_278, rfl, N278, Kp278, Q278_0, Q278_1, Q278_2, Q278_3, Q278_4, Q278_5, ne278_6, ne278_7, ge278_8, eq278_9, eq278_10⟩ := hQ278
    have N278' := Fr.app Ng274 N278
    obtain ⟨Lg278, Xg278, Ng278⟩ : ∃ Lg, Stand p l e room_1 s m #[(.int p0), (.int p1), (.int p2), (.int p3), (.int p4)] below meth c T278 Lg 7 ((40 + 2 * z2_265.toNatClampNeg) + (own_NN z2_265 ya)) ∧ Fr n0 Lg := ⟨_, X278, N278'⟩
    have K280 : Steps p.tables e below _ (T278.setTop (mkF m 108 #[.val (.int p0), .val (.int p1), .val (.int p2), .val (.int p3), .val (.int p4), .val (.int xa), .val (.int ya), .val (.int za), .val (.int wa), .val (.int (3 : Int32)), .val (.ref b6), .val (.int (1 : Int32)), .unset, .unset, .unset, .unset, .unset] [(.int (own_ret ([]) ya))])) := st278
    obtain ⟨r279, hr279⟩ : ∃ zq : Int32, (own_ret ([]) ya) = zq := ⟨_, rfl⟩
    rw [hr279] at K280
    have X278g := own_grow (slots' := 40 + 2 * z2_278.toNatClampNeg) Xg278 (Nat.le_refl _) (own_pot2 eq278_10)
    have hnn278 : own_ln (own_addS [] ya) = n2_278 := own_inv_len eq278_9
    have K281 : Steps p.tables e below _ (T278.setTop (mkF m 114 #[.val (.int p0), .val (.int p1), .val (.int p2), .val (.int p3), .val (.int p4), .val (.int xa), .val (.int ya), .val (.int za), .val (.int wa), .val (.int (3 : Int32)), .val (.ref b6), .val (.int (1 : Int32)), .val (.int r279), .unset, .unset, .unset, .unset] [(.int xa), (.ref b6)])) := K280.trans (by
      refine XS.istore X278g.here hx rfl (hb hby at_108) rfl (l' := #[.val (.int p0), .val (.int p1), .val (.int p2), .val (.int p3), .val (.int p4), .val (.int xa), .val (.int ya), .val (.int za), .val (.int wa), .val (.int (3 : Int32)), .val (.ref b6), .val (.int (1 : Int32)), .val (.int r279), .unset, .unset, .unset, .unset]) rfl ?_
      refine XS.aload X278g.here hx rfl (hb hby at_110) rfl rfl ?_
      refine XS.iload X278g.here hx rfl (hb hby at_112) rfl ?_
      exact Steps.refl _)
    have Z_282 : n0 ≤ T278.heap.size := (Nat.le_trans Z_273 Kp278.1)
    obtain ⟨cq283, kq283, q283a, q283b, q283c⟩ := isOf hZ rfl Q278_0
    obtain ⟨_, _, ⟨T283, L283, k283, n283⟩, -, X283, ⟨Lc283, hQ283, l283, y283, z283⟩, st283⟩ := X278g.virtualBack hx (y := (⟨"com/example/futures_from_states/futuresfromstates/model/StateSet", "add", "(I)Z"⟩ : MethodName)) (z := (⟨"com/example/futures_from_states/futuresfromstates/model/StateSet", "add", "(I)Z"⟩ : MethodName)) hown (mvT hZ (hw _ (List.mem_of_getElem? (i := 28) rfl))) (mvT hZ (hw _ (List.mem_of_getElem? (i := 29) rfl))) (notFace_of_selects (args := #[]) (mvT hZ (hw _ (List.mem_of_getElem? (i := 31) rfl)))) (mvT hZ (hw _ (List.mem_of_getElem? (i := 31) rfl))) (mvT hZ (hw _ (List.mem_of_getElem? (i := 30) rfl))) (by decide) (backOf (W := 0) (rm5 l Z a0 hw [] b6 xa ba2_278 b10_b12 kb2_278 k12_10 z2_278 vs2_278 vm2_278 n2_278 (own_addS [] ya) T278.heap n0 Z_282 Q278_0 Q278_1 Q278_2 Q278_3 Q278_4 Q278_5 ne278_6 ne_b6_b10_b12 ne278_7 ge_b6 ge278_8 ge_b10_b12 (eq278_9) (own_okp hxa) (own_e1 _)) hZ (hw _ (List.mem_of_getElem? (i := 32) rfl)) (hw _ (List.mem_of_getElem? (i := 3) rfl)) (by exact Nat.le_of_ble_eq_true rfl) (by exact Nat.le_of_ble_eq_true rfl)) q283a q283c (g := (mkF m 114 #[.val (.int p0), .val (.int p1), .val (.int p2), .val (.int p3), .val (.int p4), .val (.int xa), .val (.int ya), .val (.int za), .val (.int wa), .val (.int (3 : Int32)), .val (.ref b6), .val (.int (1 : Int32)), .val (.int r279), .unset, .unset, .unset, .unset] [(.int xa), (.ref b6)])) rfl (by rw [hml]; rfl) K281 (argsL := [(.int xa)]) (rest := []) (lenOf pd_4 rfl) rfl (by show 2 * 0 + _ ≤ _; exact Nat.le_of_eq rfl) (hb hby at_114) (fun _ _ => ⟨rfl, rfl, (by exact Nat.le_of_ble_eq_true rfl), (own_room eq278_9 (own_okp hxa))⟩)
    dsimp only [Pt.U, Pt.locs, Pt.cells, Pt.slots] at X283 l283 y283 z283 st283 hQ283
    subst l283 y283 z283
    obtain ⟨ba2_283, kb2_283, z2_283, vs2_283, vm2_283, n2_283, rfl, N283, Kp283, Q283_0, Q283_1, Q283_2, Q283_3, Q283_4, Q283_5, ne283_6, ne283_7, ge283_8, eq283_9, eq283_10⟩ := hQ283
    have N283' := Fr.app Ng278 N283
    obtain ⟨Lg283, Xg283, Ng283⟩ : ∃ Lg, Stand p l e room_1 s m #[(.int p0), (.int p1), (.int p2), (.int p3), (.int p4)] below meth c T283 Lg 8 ((40 + 2 * z2_278.toNatClampNeg) + (own_NN z2_278 xa)) ∧ Fr n0 Lg := ⟨_, X283, N283'⟩
    have K285 : Steps p.tables e below _ (T283.setTop (mkF m 117 #[.val (.int p0), .val (.int p1), .val (.int p2), .val (.int p3), .val (.int p4), .val (.int xa), .val (.int ya), .val (.int za), .val (.int wa), .val (.int (3 : Int32)), .val (.ref b6), .val (.int (1 : Int32)), .val (.int r279), .unset, .unset, .unset, .unset] [(.int (own_ret (own_addS [] ya) xa))])) := st283
    obtain ⟨r284, hr284⟩ : ∃ zq : Int32, (own_ret (own_addS [] ya) xa) = zq := ⟨_, rfl⟩
    rw [hr284] at K285
    have X283g := own_grow (slots' := 40 + 2 * z2_283.toNatClampNeg) Xg283 (Nat.le_refl _) (own_pot2 eq283_10)
    have hnn283 : own_ln (own_addS (own_addS [] ya) xa) = n2_283 := own_inv_len eq283_9
    have K286 : Steps p.tables e below _ (T283.setTop (mkF m 123 #[.val (.int p0), .val (.int p1), .val (.int p2), .val (.int p3), .val (.int p4), .val (.int xa), .val (.int ya), .val (.int za), .val (.int wa), .val (.int (3 : Int32)), .val (.ref b6), .val (.int (1 : Int32)), .val (.int r279), .val (.int r284), .unset, .unset, .unset] [(.int wa), (.ref b6)])) := K285.trans (by
      refine XS.istore X283g.here hx rfl (hb hby at_117) rfl (l' := #[.val (.int p0), .val (.int p1), .val (.int p2), .val (.int p3), .val (.int p4), .val (.int xa), .val (.int ya), .val (.int za), .val (.int wa), .val (.int (3 : Int32)), .val (.ref b6), .val (.int (1 : Int32)), .val (.int r279), .val (.int r284), .unset, .unset, .unset]) rfl ?_
      refine XS.aload X283g.here hx rfl (hb hby at_119) rfl rfl ?_
      refine XS.iload X283g.here hx rfl (hb hby at_121) rfl ?_
      exact Steps.refl _)
    have Z_287 : n0 ≤ T283.heap.size := (Nat.le_trans Z_282 Kp283.1)
    obtain ⟨cq288, kq288, q288a, q288b, q288c⟩ := isOf hZ rfl Q283_0
    obtain ⟨_, _, ⟨T288, L288, k288, n288⟩, -, X288, ⟨Lc288, hQ288, l288, y288, z288⟩, st288⟩ := X283g.virtualBack hx (y := (⟨"com/example/futures_from_states/futuresfromstates/model/StateSet", "add", "(I)Z"⟩ : MethodName)) (z := (⟨"com/example/futures_from_states/futuresfromstates/model/StateSet", "add", "(I)Z"⟩ : MethodName)) hown (mvT hZ (hw _ (List.mem_of_getElem? (i := 28) rfl))) (mvT hZ (hw _ (List.mem_of_getElem? (i := 29) rfl))) (notFace_of_selects (args := #[]) (mvT hZ (hw _ (List.mem_of_getElem? (i := 31) rfl)))) (mvT hZ (hw _ (List.mem_of_getElem? (i := 31) rfl))) (mvT hZ (hw _ (List.mem_of_getElem? (i := 30) rfl))) (by decide) (backOf (W := 0) (rm5 l Z a0 hw [] b6 wa ba2_283 b10_b12 kb2_283 k12_10 z2_283 vs2_283 vm2_283 n2_283 (own_addS (own_addS [] ya) xa) T283.heap n0 Z_287 Q283_0 Q283_1 Q283_2 Q283_3 Q283_4 Q283_5 ne283_6 ne_b6_b10_b12 ne283_7 ge_b6 ge283_8 ge_b10_b12 (eq283_9) (own_okp hwa) (own_e2 _ _)) hZ (hw _ (List.mem_of_getElem? (i := 32) rfl)) (hw _ (List.mem_of_getElem? (i := 3) rfl)) (by exact Nat.le_of_ble_eq_true rfl) (by exact Nat.le_of_ble_eq_true rfl)) q288a q288c (g := (mkF m 123 #[.val (.int p0), .val (.int p1), .val (.int p2), .val (.int p3), .val (.int p4), .val (.int xa), .val (.int ya), .val (.int za), .val (.int wa), .val (.int (3 : Int32)), .val (.ref b6), .val (.int (1 : Int32)), .val (.int r279), .val (.int r284), .unset, .unset, .unset] [(.int wa), (.ref b6)])) rfl (by rw [hml]; rfl) K286 (argsL := [(.int wa)]) (rest := []) (lenOf pd_4 rfl) rfl (by show 2 * 0 + _ ≤ _; exact Nat.le_of_eq rfl) (hb hby at_123) (fun _ _ => ⟨rfl, rfl, (by exact Nat.le_of_ble_eq_true rfl), (own_room eq283_9 (own_okp hwa))⟩)
    dsimp only [Pt.U, Pt.locs, Pt.cells, Pt.slots] at X288 l288 y288 z288 st288 hQ288
    subst l288 y288 z288
    obtain ⟨ba2_288, kb2_288, z2_288, vs2_288, vm2_288, n2_288, rfl, N288, Kp288, Q288_0, Q288_1, Q288_2, Q288_3, Q288_4, Q288_5, ne288_6, ne288_7, ge288_8, eq288_9, eq288_10⟩ := hQ288
    have N288' := Fr.app Ng283 N288
    obtain ⟨Lg288, Xg288, Ng288⟩ : ∃ Lg, Stand p l e room_1 s m #[(.int p0), (.int p1), (.int p2), (.int p3), (.int p4)] below meth c T288 Lg 9 ((40 + 2 * z2_283.toNatClampNeg) + (own_NN z2_283 wa)) ∧ Fr n0 Lg := ⟨_, X288, N288'⟩
    have K290 : Steps p.tables e below _ (T288.setTop (mkF m 126 #[.val (.int p0), .val (.int p1), .val (.int p2), .val (.int p3), .val (.int p4), .val (.int xa), .val (.int ya), .val (.int za), .val (.int wa), .val (.int (3 : Int32)), .val (.ref b6), .val (.int (1 : Int32)), .val (.int r279), .val (.int r284), .unset, .unset, .unset] [(.int (own_ret (own_addS (own_addS [] ya) xa) wa))])) := st288
    obtain ⟨r289, hr289⟩ : ∃ zq : Int32, (own_ret (own_addS (own_addS [] ya) xa) wa) = zq := ⟨_, rfl⟩
    rw [hr289] at K290
    have X288g := own_grow (slots' := 40 + 2 * z2_288.toNatClampNeg) Xg288 (Nat.le_refl _) (own_pot2 eq288_10)
    have hnn288 : own_ln (own_addS (own_addS (own_addS [] ya) xa) wa) = n2_288 := own_inv_len eq288_9
    have K291 : Steps p.tables e below _ (T288.setTop (mkF m 135 #[.val (.int p0), .val (.int p1), .val (.int p2), .val (.int p3), .val (.int p4), .val (.int xa), .val (.int ya), .val (.int za), .val (.int wa), .val (.int (3 : Int32)), .val (.ref b6), .val (.int (1 : Int32)), .val (.int r279), .val (.int r284), .val (.int r289), .unset, .unset] [(.int r279)])) := K290.trans (by
      refine XS.istore X288g.here hx rfl (hb hby at_126) rfl (l' := #[.val (.int p0), .val (.int p1), .val (.int p2), .val (.int p3), .val (.int p4), .val (.int xa), .val (.int ya), .val (.int za), .val (.int wa), .val (.int (3 : Int32)), .val (.ref b6), .val (.int (1 : Int32)), .val (.int r279), .val (.int r284), .val (.int r289), .unset, .unset]) rfl ?_
      refine XS.iload X288g.here hx rfl (hb hby at_128) rfl ?_
      refine XS.ifNo X288g.here hx rfl (hb hby at_130) rfl ((if0 _ _).trans (feq (by decide : ¬ ((1 : Int32) = (0 : Int32)))).1) ?_
      refine XS.iload X288g.here hx rfl (hb hby at_133) rfl ?_
      exact Steps.refl _)
    obtain ⟨v292_0, hv292_0, S292⟩ : ∃ (v292_0 : Int32), (if r279 = (0 : Int32) then (0 : Int32) else (1 : Int32)) = v292_0 ∧ Steps p.tables e below (T288.setTop (mkF m 135 #[.val (.int p0), .val (.int p1), .val (.int p2), .val (.int p3), .val (.int p4), .val (.int xa), .val (.int ya), .val (.int za), .val (.int wa), .val (.int (3 : Int32)), .val (.ref b6), .val (.int (1 : Int32)), .val (.int r279), .val (.int r284), .val (.int r289), .unset, .unset] [(.int r279)])) (T288.setTop (mkF m 143 #[.val (.int p0), .val (.int p1), .val (.int p2), .val (.int p3), .val (.int p4), .val (.int xa), .val (.int ya), .val (.int za), .val (.int wa), .val (.int (3 : Int32)), .val (.ref b6), .val (.int (1 : Int32)), .val (.int r279), .val (.int r284), .val (.int r289), .unset, .unset] [(.int v292_0)])) := by
      have R292 := Steps.refl (tb := p.tables) (e := e) (below := below) (T288.setTop (mkF m 135 #[.val (.int p0), .val (.int p1), .val (.int p2), .val (.int p3), .val (.int p4), .val (.int xa), .val (.int ya), .val (.int za), .val (.int wa), .val (.int (3 : Int32)), .val (.ref b6), .val (.int (1 : Int32)), .val (.int r279), .val (.int r284), .val (.int r289), .unset, .unset] [(.int r279)]))
      by_cases hc135 : r279 = (0 : Int32)
      · have K293 : Steps p.tables e below _ (T288.setTop (mkF m 143 #[.val (.int p0), .val (.int p1), .val (.int p2), .val (.int p3), .val (.int p4), .val (.int xa), .val (.int ya), .val (.int za), .val (.int wa), .val (.int (3 : Int32)), .val (.ref b6), .val (.int (1 : Int32)), .val (.int r279), .val (.int r284), .val (.int r289), .unset, .unset] [(.int (0 : Int32))])) := R292.trans (by
          refine XS.ifYes X288g.here hx rfl (pc0 := 135) (pc' := 142) rfl (hb hby at_135) rfl ((if0 _ _).trans (teq hc135).1) (by decide) (by decide) ?_
          refine XS.iconst X288g.here hx rfl (hb hby at_142) ?_
          exact Steps.refl _)
        exact ⟨(0 : Int32), (by rw [if_pos hc135]), K293⟩
      · have K294 : Steps p.tables e below _ (T288.setTop (mkF m 143 #[.val (.int p0), .val (.int p1), .val (.int p2), .val (.int p3), .val (.int p4), .val (.int xa), .val (.int ya), .val (.int za), .val (.int wa), .val (.int (3 : Int32)), .val (.ref b6), .val (.int (1 : Int32)), .val (.int r279), .val (.int r284), .val (.int r289), .unset, .unset] [(.int (1 : Int32))])) := R292.trans (by
          refine XS.ifNo X288g.here hx rfl (hb hby at_135) rfl ((if0 _ _).trans (feq hc135).1) ?_
          refine XS.iconst X288g.here hx rfl (hb hby at_138) ?_
          refine XS.goto X288g.here hx rfl (pc0 := 139) (pc' := 143) rfl (hb hby at_139) (by decide) (by decide) ?_
          exact Steps.refl _)
        exact ⟨(1 : Int32), (by rw [if_neg hc135]), K294⟩
    have K295 := K291.trans S292
    have K296 : Steps p.tables e below _ (T288.setTop (mkF m 147 #[.val (.int p0), .val (.int p1), .val (.int p2), .val (.int p3), .val (.int p4), .val (.int xa), .val (.int ya), .val (.int za), .val (.int wa), .val (.int (3 : Int32)), .val (.ref b6), .val (.int v292_0), .val (.int r279), .val (.int r284), .val (.int r289), .unset, .unset] [(.int v292_0)])) := K295.trans (by
      refine XS.istore X288g.here hx rfl (hb hby at_143) rfl (l' := #[.val (.int p0), .val (.int p1), .val (.int p2), .val (.int p3), .val (.int p4), .val (.int xa), .val (.int ya), .val (.int za), .val (.int wa), .val (.int (3 : Int32)), .val (.ref b6), .val (.int v292_0), .val (.int r279), .val (.int r284), .val (.int r289), .unset, .unset]) rfl ?_
      refine XS.iload X288g.here hx rfl (hb hby at_145) rfl ?_
      exact Steps.refl _)
    obtain ⟨v297_0, hv297_0, S297⟩ : ∃ (v297_0 : Int32), (if v292_0 = (0 : Int32) then (0 : Int32) else (if r284 = (if xa = ya then (0 : Int32) else (1 : Int32)) then (1 : Int32) else (0 : Int32))) = v297_0 ∧ Steps p.tables e below (T288.setTop (mkF m 147 #[.val (.int p0), .val (.int p1), .val (.int p2), .val (.int p3), .val (.int p4), .val (.int xa), .val (.int ya), .val (.int za), .val (.int wa), .val (.int (3 : Int32)), .val (.ref b6), .val (.int v292_0), .val (.int r279), .val (.int r284), .val (.int r289), .unset, .unset] [(.int v292_0)])) (T288.setTop (mkF m 172 #[.val (.int p0), .val (.int p1), .val (.int p2), .val (.int p3), .val (.int p4), .val (.int xa), .val (.int ya), .val (.int za), .val (.int wa), .val (.int (3 : Int32)), .val (.ref b6), .val (.int v292_0), .val (.int r279), .val (.int r284), .val (.int r289), .unset, .unset] [(.int v297_0)])) := by
      have R297 := Steps.refl (tb := p.tables) (e := e) (below := below) (T288.setTop (mkF m 147 #[.val (.int p0), .val (.int p1), .val (.int p2), .val (.int p3), .val (.int p4), .val (.int xa), .val (.int ya), .val (.int za), .val (.int wa), .val (.int (3 : Int32)), .val (.ref b6), .val (.int v292_0), .val (.int r279), .val (.int r284), .val (.int r289), .unset, .unset] [(.int v292_0)]))
      by_cases hc147 : v292_0 = (0 : Int32)
      · have K298 : Steps p.tables e below _ (T288.setTop (mkF m 172 #[.val (.int p0), .val (.int p1), .val (.int p2), .val (.int p3), .val (.int p4), .val (.int xa), .val (.int ya), .val (.int za), .val (.int wa), .val (.int (3 : Int32)), .val (.ref b6), .val (.int v292_0), .val (.int r279), .val (.int r284), .val (.int r289), .unset, .unset] [(.int (0 : Int32))])) := R297.trans (by
          refine XS.ifYes X288g.here hx rfl (pc0 := 147) (pc' := 171) rfl (hb hby at_147) rfl ((if0 _ _).trans (teq hc147).1) (by decide) (by decide) ?_
          refine XS.iconst X288g.here hx rfl (hb hby at_171) ?_
          exact Steps.refl _)
        exact ⟨(0 : Int32), (by rw [if_pos hc147]), K298⟩
      · have K299 : Steps p.tables e below _ (T288.setTop (mkF m 156 #[.val (.int p0), .val (.int p1), .val (.int p2), .val (.int p3), .val (.int p4), .val (.int xa), .val (.int ya), .val (.int za), .val (.int wa), .val (.int (3 : Int32)), .val (.ref b6), .val (.int v292_0), .val (.int r279), .val (.int r284), .val (.int r289), .unset, .unset] [(.int ya), (.int xa), (.int r284)])) := R297.trans (by
          refine XS.ifNo X288g.here hx rfl (hb hby at_147) rfl ((if0 _ _).trans (feq hc147).1) ?_
          refine XS.iload X288g.here hx rfl (hb hby at_150) rfl ?_
          refine XS.iload X288g.here hx rfl (hb hby at_152) rfl ?_
          refine XS.iload X288g.here hx rfl (hb hby at_154) rfl ?_
          exact Steps.refl _)
        obtain ⟨v300_0, hv300_0, S300⟩ : ∃ (v300_0 : Int32), (if xa = ya then (0 : Int32) else (1 : Int32)) = v300_0 ∧ Steps p.tables e below (T288.setTop (mkF m 156 #[.val (.int p0), .val (.int p1), .val (.int p2), .val (.int p3), .val (.int p4), .val (.int xa), .val (.int ya), .val (.int za), .val (.int wa), .val (.int (3 : Int32)), .val (.ref b6), .val (.int v292_0), .val (.int r279), .val (.int r284), .val (.int r289), .unset, .unset] [(.int ya), (.int xa), (.int r284)])) (T288.setTop (mkF m 164 #[.val (.int p0), .val (.int p1), .val (.int p2), .val (.int p3), .val (.int p4), .val (.int xa), .val (.int ya), .val (.int za), .val (.int wa), .val (.int (3 : Int32)), .val (.ref b6), .val (.int v292_0), .val (.int r279), .val (.int r284), .val (.int r289), .unset, .unset] [(.int v300_0), (.int r284)])) := by
          have R300 := Steps.refl (tb := p.tables) (e := e) (below := below) (T288.setTop (mkF m 156 #[.val (.int p0), .val (.int p1), .val (.int p2), .val (.int p3), .val (.int p4), .val (.int xa), .val (.int ya), .val (.int za), .val (.int wa), .val (.int (3 : Int32)), .val (.ref b6), .val (.int v292_0), .val (.int r279), .val (.int r284), .val (.int r289), .unset, .unset] [(.int ya), (.int xa), (.int r284)]))
          by_cases hc156 : xa = ya
          · have K301 : Steps p.tables e below _ (T288.setTop (mkF m 164 #[.val (.int p0), .val (.int p1), .val (.int p2), .val (.int p3), .val (.int p4), .val (.int xa), .val (.int ya), .val (.int za), .val (.int wa), .val (.int (3 : Int32)), .val (.ref b6), .val (.int v292_0), .val (.int r279), .val (.int r284), .val (.int r289), .unset, .unset] [(.int (0 : Int32)), (.int r284)])) := R300.trans (by
              refine XS.icmpYes X288g.here hx rfl (pc0 := 156) (pc' := 163) rfl (hb hby at_156) rfl (teq hc156).1 (by decide) (by decide) ?_
              refine XS.iconst X288g.here hx rfl (hb hby at_163) ?_
              exact Steps.refl _)
            exact ⟨(0 : Int32), (by rw [if_pos hc156]), K301⟩
          · have K302 : Steps p.tables e below _ (T288.setTop (mkF m 164 #[.val (.int p0), .val (.int p1), .val (.int p2), .val (.int p3), .val (.int p4), .val (.int xa), .val (.int ya), .val (.int za), .val (.int wa), .val (.int (3 : Int32)), .val (.ref b6), .val (.int v292_0), .val (.int r279), .val (.int r284), .val (.int r289), .unset, .unset] [(.int (1 : Int32)), (.int r284)])) := R300.trans (by
              refine XS.icmpNo X288g.here hx rfl (hb hby at_156) rfl (feq hc156).1 ?_
              refine XS.iconst X288g.here hx rfl (hb hby at_159) ?_
              refine XS.goto X288g.here hx rfl (pc0 := 160) (pc' := 164) rfl (hb hby at_160) (by decide) (by decide) ?_
              exact Steps.refl _)
            exact ⟨(1 : Int32), (by rw [if_neg hc156]), K302⟩
        have K303 := K299.trans S300
        by_cases hc164 : r284 = v300_0
        · have K304 : Steps p.tables e below _ (T288.setTop (mkF m 172 #[.val (.int p0), .val (.int p1), .val (.int p2), .val (.int p3), .val (.int p4), .val (.int xa), .val (.int ya), .val (.int za), .val (.int wa), .val (.int (3 : Int32)), .val (.ref b6), .val (.int v292_0), .val (.int r279), .val (.int r284), .val (.int r289), .unset, .unset] [(.int (1 : Int32))])) := K303.trans (by
            refine XS.icmpNo X288g.here hx rfl (hb hby at_164) rfl (teq hc164).2 ?_
            refine XS.iconst X288g.here hx rfl (hb hby at_167) ?_
            refine XS.goto X288g.here hx rfl (pc0 := 168) (pc' := 172) rfl (hb hby at_168) (by decide) (by decide) ?_
            exact Steps.refl _)
          subst hv300_0
          exact ⟨(1 : Int32), (by rw [if_neg hc147, if_pos hc164]), K304⟩
        · have K305 : Steps p.tables e below _ (T288.setTop (mkF m 172 #[.val (.int p0), .val (.int p1), .val (.int p2), .val (.int p3), .val (.int p4), .val (.int xa), .val (.int ya), .val (.int za), .val (.int wa), .val (.int (3 : Int32)), .val (.ref b6), .val (.int v292_0), .val (.int r279), .val (.int r284), .val (.int r289), .unset, .unset] [(.int (0 : Int32))])) := K303.trans (by
            refine XS.icmpYes X288g.here hx rfl (pc0 := 164) (pc' := 171) rfl (hb hby at_164) rfl (feq hc164).2 (by decide) (by decide) ?_
            refine XS.iconst X288g.here hx rfl (hb hby at_171) ?_
            exact Steps.refl _)
          subst hv300_0
          exact ⟨(0 : Int32), (by rw [if_neg hc147, if_neg hc164]), K305⟩
    have K306 := K296.trans S297
    have K307 : Steps p.tables e below _ (T288.setTop (mkF m 178 #[.val (.int p0), .val (.int p1), .val (.int p2), .val (.int p3), .val (.int p4), .val (.int xa), .val (.int ya), .val (.int za), .val (.int wa), .val (.int (3 : Int32)), .val (.ref b6), .val (.int v297_0), .val (.int r279), .val (.int r284), .val (.int r289), .unset, .unset] [(.int xa), (.int wa)])) := K306.trans (by
      refine XS.istore X288g.here hx rfl (hb hby at_172) rfl (l' := #[.val (.int p0), .val (.int p1), .val (.int p2), .val (.int p3), .val (.int p4), .val (.int xa), .val (.int ya), .val (.int za), .val (.int wa), .val (.int (3 : Int32)), .val (.ref b6), .val (.int v297_0), .val (.int r279), .val (.int r284), .val (.int r289), .unset, .unset]) rfl ?_
      refine XS.iload X288g.here hx rfl (hb hby at_174) rfl ?_
      refine XS.iload X288g.here hx rfl (hb hby at_176) rfl ?_
      exact Steps.refl _)
    obtain ⟨v308_0, hv308_0, S308⟩ : ∃ (v308_0 : Int32), (if wa = xa then (0 : Int32) else (if wa = ya then (0 : Int32) else (1 : Int32))) = v308_0 ∧ Steps p.tables e below (T288.setTop (mkF m 178 #[.val (.int p0), .val (.int p1), .val (.int p2), .val (.int p3), .val (.int p4), .val (.int xa), .val (.int ya), .val (.int za), .val (.int wa), .val (.int (3 : Int32)), .val (.ref b6), .val (.int v297_0), .val (.int r279), .val (.int r284), .val (.int r289), .unset, .unset] [(.int xa), (.int wa)])) (T288.setTop (mkF m 193 #[.val (.int p0), .val (.int p1), .val (.int p2), .val (.int p3), .val (.int p4), .val (.int xa), .val (.int ya), .val (.int za), .val (.int wa), .val (.int (3 : Int32)), .val (.ref b6), .val (.int v297_0), .val (.int r279), .val (.int r284), .val (.int r289), .unset, .unset] [(.int v308_0)])) := by
      have R308 := Steps.refl (tb := p.tables) (e := e) (below := below) (T288.setTop (mkF m 178 #[.val (.int p0), .val (.int p1), .val (.int p2), .val (.int p3), .val (.int p4), .val (.int xa), .val (.int ya), .val (.int za), .val (.int wa), .val (.int (3 : Int32)), .val (.ref b6), .val (.int v297_0), .val (.int r279), .val (.int r284), .val (.int r289), .unset, .unset] [(.int xa), (.int wa)]))
      by_cases hc178 : wa = xa
      · have K309 : Steps p.tables e below _ (T288.setTop (mkF m 193 #[.val (.int p0), .val (.int p1), .val (.int p2), .val (.int p3), .val (.int p4), .val (.int xa), .val (.int ya), .val (.int za), .val (.int wa), .val (.int (3 : Int32)), .val (.ref b6), .val (.int v297_0), .val (.int r279), .val (.int r284), .val (.int r289), .unset, .unset] [(.int (0 : Int32))])) := R308.trans (by
          refine XS.icmpYes X288g.here hx rfl (pc0 := 178) (pc' := 192) rfl (hb hby at_178) rfl (teq hc178).1 (by decide) (by decide) ?_
          refine XS.iconst X288g.here hx rfl (hb hby at_192) ?_
          exact Steps.refl _)
        exact ⟨(0 : Int32), (by rw [if_pos hc178]), K309⟩
      · have K310 : Steps p.tables e below _ (T288.setTop (mkF m 185 #[.val (.int p0), .val (.int p1), .val (.int p2), .val (.int p3), .val (.int p4), .val (.int xa), .val (.int ya), .val (.int za), .val (.int wa), .val (.int (3 : Int32)), .val (.ref b6), .val (.int v297_0), .val (.int r279), .val (.int r284), .val (.int r289), .unset, .unset] [(.int ya), (.int wa)])) := R308.trans (by
          refine XS.icmpNo X288g.here hx rfl (hb hby at_178) rfl (feq hc178).1 ?_
          refine XS.iload X288g.here hx rfl (hb hby at_181) rfl ?_
          refine XS.iload X288g.here hx rfl (hb hby at_183) rfl ?_
          exact Steps.refl _)
        by_cases hc185 : wa = ya
        · have K311 : Steps p.tables e below _ (T288.setTop (mkF m 193 #[.val (.int p0), .val (.int p1), .val (.int p2), .val (.int p3), .val (.int p4), .val (.int xa), .val (.int ya), .val (.int za), .val (.int wa), .val (.int (3 : Int32)), .val (.ref b6), .val (.int v297_0), .val (.int r279), .val (.int r284), .val (.int r289), .unset, .unset] [(.int (0 : Int32))])) := K310.trans (by
            refine XS.icmpYes X288g.here hx rfl (pc0 := 185) (pc' := 192) rfl (hb hby at_185) rfl (teq hc185).1 (by decide) (by decide) ?_
            refine XS.iconst X288g.here hx rfl (hb hby at_192) ?_
            exact Steps.refl _)
          exact ⟨(0 : Int32), (by rw [if_neg hc178, if_pos hc185]), K311⟩
        · have K312 : Steps p.tables e below _ (T288.setTop (mkF m 193 #[.val (.int p0), .val (.int p1), .val (.int p2), .val (.int p3), .val (.int p4), .val (.int xa), .val (.int ya), .val (.int za), .val (.int wa), .val (.int (3 : Int32)), .val (.ref b6), .val (.int v297_0), .val (.int r279), .val (.int r284), .val (.int r289), .unset, .unset] [(.int (1 : Int32))])) := K310.trans (by
            refine XS.icmpNo X288g.here hx rfl (hb hby at_185) rfl (feq hc185).1 ?_
            refine XS.iconst X288g.here hx rfl (hb hby at_188) ?_
            refine XS.goto X288g.here hx rfl (pc0 := 189) (pc' := 193) rfl (hb hby at_189) (by decide) (by decide) ?_
            exact Steps.refl _)
          exact ⟨(1 : Int32), (by rw [if_neg hc178, if_neg hc185]), K312⟩
    have K313 := K307.trans S308
    have K314 : Steps p.tables e below _ (T288.setTop (mkF m 197 #[.val (.int p0), .val (.int p1), .val (.int p2), .val (.int p3), .val (.int p4), .val (.int xa), .val (.int ya), .val (.int za), .val (.int wa), .val (.int (3 : Int32)), .val (.ref b6), .val (.int v297_0), .val (.int r279), .val (.int r284), .val (.int r289), .val (.int v308_0), .unset] [(.int v297_0)])) := K313.trans (by
      refine XS.istore X288g.here hx rfl (hb hby at_193) rfl (l' := #[.val (.int p0), .val (.int p1), .val (.int p2), .val (.int p3), .val (.int p4), .val (.int xa), .val (.int ya), .val (.int za), .val (.int wa), .val (.int (3 : Int32)), .val (.ref b6), .val (.int v297_0), .val (.int r279), .val (.int r284), .val (.int r289), .val (.int v308_0), .unset]) rfl ?_
      refine XS.iload X288g.here hx rfl (hb hby at_195) rfl ?_
      exact Steps.refl _)
    obtain ⟨v315_0, hv315_0, S315⟩ : ∃ (v315_0 : Int32), (if v297_0 = (0 : Int32) then (0 : Int32) else (if r289 = v308_0 then (1 : Int32) else (0 : Int32))) = v315_0 ∧ Steps p.tables e below (T288.setTop (mkF m 197 #[.val (.int p0), .val (.int p1), .val (.int p2), .val (.int p3), .val (.int p4), .val (.int xa), .val (.int ya), .val (.int za), .val (.int wa), .val (.int (3 : Int32)), .val (.ref b6), .val (.int v297_0), .val (.int r279), .val (.int r284), .val (.int r289), .val (.int v308_0), .unset] [(.int v297_0)])) (T288.setTop (mkF m 212 #[.val (.int p0), .val (.int p1), .val (.int p2), .val (.int p3), .val (.int p4), .val (.int xa), .val (.int ya), .val (.int za), .val (.int wa), .val (.int (3 : Int32)), .val (.ref b6), .val (.int v297_0), .val (.int r279), .val (.int r284), .val (.int r289), .val (.int v308_0), .unset] [(.int v315_0)])) := by
      have R315 := Steps.refl (tb := p.tables) (e := e) (below := below) (T288.setTop (mkF m 197 #[.val (.int p0), .val (.int p1), .val (.int p2), .val (.int p3), .val (.int p4), .val (.int xa), .val (.int ya), .val (.int za), .val (.int wa), .val (.int (3 : Int32)), .val (.ref b6), .val (.int v297_0), .val (.int r279), .val (.int r284), .val (.int r289), .val (.int v308_0), .unset] [(.int v297_0)]))
      by_cases hc197 : v297_0 = (0 : Int32)
      · have K316 : Steps p.tables e below _ (T288.setTop (mkF m 212 #[.val (.int p0), .val (.int p1), .val (.int p2), .val (.int p3), .val (.int p4), .val (.int xa), .val (.int ya), .val (.int za), .val (.int wa), .val (.int (3 : Int32)), .val (.ref b6), .val (.int v297_0), .val (.int r279), .val (.int r284), .val (.int r289), .val (.int v308_0), .unset] [(.int (0 : Int32))])) := R315.trans (by
          refine XS.ifYes X288g.here hx rfl (pc0 := 197) (pc' := 211) rfl (hb hby at_197) rfl ((if0 _ _).trans (teq hc197).1) (by decide) (by decide) ?_
          refine XS.iconst X288g.here hx rfl (hb hby at_211) ?_
          exact Steps.refl _)
        exact ⟨(0 : Int32), (by rw [if_pos hc197]), K316⟩
      · have K317 : Steps p.tables e below _ (T288.setTop (mkF m 204 #[.val (.int p0), .val (.int p1), .val (.int p2), .val (.int p3), .val (.int p4), .val (.int xa), .val (.int ya), .val (.int za), .val (.int wa), .val (.int (3 : Int32)), .val (.ref b6), .val (.int v297_0), .val (.int r279), .val (.int r284), .val (.int r289), .val (.int v308_0), .unset] [(.int v308_0), (.int r289)])) := R315.trans (by
          refine XS.ifNo X288g.here hx rfl (hb hby at_197) rfl ((if0 _ _).trans (feq hc197).1) ?_
          refine XS.iload X288g.here hx rfl (hb hby at_200) rfl ?_
          refine XS.iload X288g.here hx rfl (hb hby at_202) rfl ?_
          exact Steps.refl _)
        by_cases hc204 : r289 = v308_0
        · have K318 : Steps p.tables e below _ (T288.setTop (mkF m 212 #[.val (.int p0), .val (.int p1), .val (.int p2), .val (.int p3), .val (.int p4), .val (.int xa), .val (.int ya), .val (.int za), .val (.int wa), .val (.int (3 : Int32)), .val (.ref b6), .val (.int v297_0), .val (.int r279), .val (.int r284), .val (.int r289), .val (.int v308_0), .unset] [(.int (1 : Int32))])) := K317.trans (by
            refine XS.icmpNo X288g.here hx rfl (hb hby at_204) rfl (teq hc204).2 ?_
            refine XS.iconst X288g.here hx rfl (hb hby at_207) ?_
            refine XS.goto X288g.here hx rfl (pc0 := 208) (pc' := 212) rfl (hb hby at_208) (by decide) (by decide) ?_
            exact Steps.refl _)
          exact ⟨(1 : Int32), (by rw [if_neg hc197, if_pos hc204]), K318⟩
        · have K319 : Steps p.tables e below _ (T288.setTop (mkF m 212 #[.val (.int p0), .val (.int p1), .val (.int p2), .val (.int p3), .val (.int p4), .val (.int xa), .val (.int ya), .val (.int za), .val (.int wa), .val (.int (3 : Int32)), .val (.ref b6), .val (.int v297_0), .val (.int r279), .val (.int r284), .val (.int r289), .val (.int v308_0), .unset] [(.int (0 : Int32))])) := K317.trans (by
            refine XS.icmpYes X288g.here hx rfl (pc0 := 204) (pc' := 211) rfl (hb hby at_204) rfl (feq hc204).2 (by decide) (by decide) ?_
            refine XS.iconst X288g.here hx rfl (hb hby at_211) ?_
            exact Steps.refl _)
          exact ⟨(0 : Int32), (by rw [if_neg hc197, if_neg hc204]), K319⟩
    have K320 := K314.trans S315
    have K321 : Steps p.tables e below _ (T288.setTop (mkF m 221 #[.val (.int p0), .val (.int p1), .val (.int p2), .val (.int p3), .val (.int p4), .val (.int xa), .val (.int ya), .val (.int za), .val (.int wa), .val (.int (3 : Int32)), .val (.ref b6), .val (.int v315_0), .val (.int r279), .val (.int r284), .val (.int r289), .val (.int v308_0), .val (.int (1 : Int32))] [(.int ya), (.int xa)])) := K320.trans (by
      refine XS.istore X288g.here hx rfl (hb hby at_212) rfl (l' := #[.val (.int p0), .val (.int p1), .val (.int p2), .val (.int p3), .val (.int p4), .val (.int xa), .val (.int ya), .val (.int za), .val (.int wa), .val (.int (3 : Int32)), .val (.ref b6), .val (.int v315_0), .val (.int r279), .val (.int r284), .val (.int r289), .val (.int v308_0), .unset]) rfl ?_
      refine XS.iconst X288g.here hx rfl (hb hby at_214) ?_
      refine XS.istore X288g.here hx rfl (hb hby at_215) rfl (l' := #[.val (.int p0), .val (.int p1), .val (.int p2), .val (.int p3), .val (.int p4), .val (.int xa), .val (.int ya), .val (.int za), .val (.int wa), .val (.int (3 : Int32)), .val (.ref b6), .val (.int v315_0), .val (.int r279), .val (.int r284), .val (.int r289), .val (.int v308_0), .val (.int (1 : Int32))]) rfl ?_
      refine XS.iload X288g.here hx rfl (hb hby at_217) rfl ?_
      refine XS.iload X288g.here hx rfl (hb hby at_219) rfl ?_
      show Steps p.tables e below (T288.setTop (mkF m 221 #[.val (.int p0), .val (.int p1), .val (.int p2), .val (.int p3), .val (.int p4), .val (.int xa), .val (.int ya), .val (.int za), .val (.int wa), .val (.int (3 : Int32)), .val (.ref b6), .val (.int v315_0), .val (.int r279), .val (.int r284), .val (.int r289), .val (.int v308_0), .val (.int (1 : Int32))] [(.int ya), (.int xa)])) _
      exact Steps.refl _)
    obtain ⟨v322_0, hv322_0, S322⟩ : ∃ (v322_0 : Int32), (if xa = ya then (1 : Int32) else (2 : Int32)) = v322_0 ∧ Steps p.tables e below (T288.setTop (mkF m 221 #[.val (.int p0), .val (.int p1), .val (.int p2), .val (.int p3), .val (.int p4), .val (.int xa), .val (.int ya), .val (.int za), .val (.int wa), .val (.int (3 : Int32)), .val (.ref b6), .val (.int v315_0), .val (.int r279), .val (.int r284), .val (.int r289), .val (.int v308_0), .val (.int (1 : Int32))] [(.int ya), (.int xa)])) (T288.setTop (mkF m 230 #[.val (.int p0), .val (.int p1), .val (.int p2), .val (.int p3), .val (.int p4), .val (.int xa), .val (.int ya), .val (.int za), .val (.int wa), .val (.int (3 : Int32)), .val (.ref b6), .val (.int v315_0), .val (.int r279), .val (.int r284), .val (.int r289), .val (.int v308_0), .val (.int v322_0)] [])) := by
      have R322 := Steps.refl (tb := p.tables) (e := e) (below := below) (T288.setTop (mkF m 221 #[.val (.int p0), .val (.int p1), .val (.int p2), .val (.int p3), .val (.int p4), .val (.int xa), .val (.int ya), .val (.int za), .val (.int wa), .val (.int (3 : Int32)), .val (.ref b6), .val (.int v315_0), .val (.int r279), .val (.int r284), .val (.int r289), .val (.int v308_0), .val (.int (1 : Int32))] [(.int ya), (.int xa)]))
      by_cases hc221 : xa = ya
      · have K323 : Steps p.tables e below _ (T288.setTop (mkF m 230 #[.val (.int p0), .val (.int p1), .val (.int p2), .val (.int p3), .val (.int p4), .val (.int xa), .val (.int ya), .val (.int za), .val (.int wa), .val (.int (3 : Int32)), .val (.ref b6), .val (.int v315_0), .val (.int r279), .val (.int r284), .val (.int r289), .val (.int v308_0), .val (.int (1 : Int32))] [])) := R322.trans (by
          refine XS.icmpYes X288g.here hx rfl (pc0 := 221) (pc' := 230) rfl (hb hby at_221) rfl (teq hc221).1 (by decide) (by decide) ?_
          exact Steps.refl _)
        exact ⟨(1 : Int32), (by rw [if_pos hc221]), K323⟩
      · have K324 : Steps p.tables e below _ (T288.setTop (mkF m 230 #[.val (.int p0), .val (.int p1), .val (.int p2), .val (.int p3), .val (.int p4), .val (.int xa), .val (.int ya), .val (.int za), .val (.int wa), .val (.int (3 : Int32)), .val (.ref b6), .val (.int v315_0), .val (.int r279), .val (.int r284), .val (.int r289), .val (.int v308_0), .val (.int (2 : Int32))] [])) := R322.trans (by
          refine XS.icmpNo X288g.here hx rfl (hb hby at_221) rfl (feq hc221).1 ?_
          refine XS.iload X288g.here hx rfl (hb hby at_224) rfl ?_
          refine XS.iconst X288g.here hx rfl (hb hby at_226) ?_
          refine XS.iadd X288g.here hx rfl (hb hby at_227) rfl ?_
          refine XS.istore X288g.here hx rfl (hb hby at_228) rfl (l' := #[.val (.int p0), .val (.int p1), .val (.int p2), .val (.int p3), .val (.int p4), .val (.int xa), .val (.int ya), .val (.int za), .val (.int wa), .val (.int (3 : Int32)), .val (.ref b6), .val (.int v315_0), .val (.int r279), .val (.int r284), .val (.int r289), .val (.int v308_0), .val (.int (2 : Int32))]) rfl ?_
          show Steps p.tables e below (T288.setTop (mkF m 230 #[.val (.int p0), .val (.int p1), .val (.int p2), .val (.int p3), .val (.int p4), .val (.int xa), .val (.int ya), .val (.int za), .val (.int wa), .val (.int (3 : Int32)), .val (.ref b6), .val (.int v315_0), .val (.int r279), .val (.int r284), .val (.int r289), .val (.int v308_0), .val (.int (2 : Int32))] [])) _
          exact Steps.refl _)
        exact ⟨(2 : Int32), (by rw [if_neg hc221]), K324⟩
    have K325 := K321.trans S322
    have K326 : Steps p.tables e below _ (T288.setTop (mkF m 232 #[.val (.int p0), .val (.int p1), .val (.int p2), .val (.int p3), .val (.int p4), .val (.int xa), .val (.int ya), .val (.int za), .val (.int wa), .val (.int (3 : Int32)), .val (.ref b6), .val (.int v315_0), .val (.int r279), .val (.int r284), .val (.int r289), .val (.int v308_0), .val (.int v322_0)] [(.int v308_0)])) := K325.trans (by
      refine XS.iload X288g.here hx rfl (hb hby at_230) rfl ?_
      exact Steps.refl _)
    obtain ⟨v327_0, hv327_0, S327⟩ : ∃ (v327_0 : Int32), (if v308_0 = (0 : Int32) then v322_0 else (v322_0 + (1 : Int32))) = v327_0 ∧ Steps p.tables e below (T288.setTop (mkF m 232 #[.val (.int p0), .val (.int p1), .val (.int p2), .val (.int p3), .val (.int p4), .val (.int xa), .val (.int ya), .val (.int za), .val (.int wa), .val (.int (3 : Int32)), .val (.ref b6), .val (.int v315_0), .val (.int r279), .val (.int r284), .val (.int r289), .val (.int v308_0), .val (.int v322_0)] [(.int v308_0)])) (T288.setTop (mkF m 241 #[.val (.int p0), .val (.int p1), .val (.int p2), .val (.int p3), .val (.int p4), .val (.int xa), .val (.int ya), .val (.int za), .val (.int wa), .val (.int (3 : Int32)), .val (.ref b6), .val (.int v315_0), .val (.int r279), .val (.int r284), .val (.int r289), .val (.int v308_0), .val (.int v327_0)] [])) := by
      have R327 := Steps.refl (tb := p.tables) (e := e) (below := below) (T288.setTop (mkF m 232 #[.val (.int p0), .val (.int p1), .val (.int p2), .val (.int p3), .val (.int p4), .val (.int xa), .val (.int ya), .val (.int za), .val (.int wa), .val (.int (3 : Int32)), .val (.ref b6), .val (.int v315_0), .val (.int r279), .val (.int r284), .val (.int r289), .val (.int v308_0), .val (.int v322_0)] [(.int v308_0)]))
      by_cases hc232 : v308_0 = (0 : Int32)
      · have K328 : Steps p.tables e below _ (T288.setTop (mkF m 241 #[.val (.int p0), .val (.int p1), .val (.int p2), .val (.int p3), .val (.int p4), .val (.int xa), .val (.int ya), .val (.int za), .val (.int wa), .val (.int (3 : Int32)), .val (.ref b6), .val (.int v315_0), .val (.int r279), .val (.int r284), .val (.int r289), .val (.int v308_0), .val (.int v322_0)] [])) := R327.trans (by
          refine XS.ifYes X288g.here hx rfl (pc0 := 232) (pc' := 241) rfl (hb hby at_232) rfl ((if0 _ _).trans (teq hc232).1) (by decide) (by decide) ?_
          exact Steps.refl _)
        exact ⟨v322_0, (by rw [if_pos hc232]), K328⟩
      · have K329 : Steps p.tables e below _ (T288.setTop (mkF m 241 #[.val (.int p0), .val (.int p1), .val (.int p2), .val (.int p3), .val (.int p4), .val (.int xa), .val (.int ya), .val (.int za), .val (.int wa), .val (.int (3 : Int32)), .val (.ref b6), .val (.int v315_0), .val (.int r279), .val (.int r284), .val (.int r289), .val (.int v308_0), .val (.int (v322_0 + (1 : Int32)))] [])) := R327.trans (by
          refine XS.ifNo X288g.here hx rfl (hb hby at_232) rfl ((if0 _ _).trans (feq hc232).1) ?_
          refine XS.iload X288g.here hx rfl (hb hby at_235) rfl ?_
          refine XS.iconst X288g.here hx rfl (hb hby at_237) ?_
          refine XS.iadd X288g.here hx rfl (hb hby at_238) rfl ?_
          refine XS.istore X288g.here hx rfl (hb hby at_239) rfl (l' := #[.val (.int p0), .val (.int p1), .val (.int p2), .val (.int p3), .val (.int p4), .val (.int xa), .val (.int ya), .val (.int za), .val (.int wa), .val (.int (3 : Int32)), .val (.ref b6), .val (.int v315_0), .val (.int r279), .val (.int r284), .val (.int r289), .val (.int v308_0), .val (.int (v322_0 + (1 : Int32)))]) rfl ?_
          show Steps p.tables e below (T288.setTop (mkF m 241 #[.val (.int p0), .val (.int p1), .val (.int p2), .val (.int p3), .val (.int p4), .val (.int xa), .val (.int ya), .val (.int za), .val (.int wa), .val (.int (3 : Int32)), .val (.ref b6), .val (.int v315_0), .val (.int r279), .val (.int r284), .val (.int r289), .val (.int v308_0), .val (.int (v322_0 + (1 : Int32)))] [])) _
          exact Steps.refl _)
        exact ⟨(v322_0 + (1 : Int32)), (by rw [if_neg hc232]), K329⟩
    have K330 := K326.trans S327
    have K331 : Steps p.tables e below _ (T288.setTop (mkF m 243 #[.val (.int p0), .val (.int p1), .val (.int p2), .val (.int p3), .val (.int p4), .val (.int xa), .val (.int ya), .val (.int za), .val (.int wa), .val (.int (3 : Int32)), .val (.ref b6), .val (.int v315_0), .val (.int r279), .val (.int r284), .val (.int r289), .val (.int v308_0), .val (.int v327_0)] [(.int v315_0)])) := K330.trans (by
      refine XS.iload X288g.here hx rfl (hb hby at_241) rfl ?_
      exact Steps.refl _)
    obtain ⟨T332, L332, v332_0, X332, e332, N332, hv332_0, S332⟩ : ∃ (T332 : State) (L332 : List Loc) (v332_0 : Int32), Stand p l e room_1 s m #[(.int p0), (.int p1), (.int p2), (.int p3), (.int p4)] below meth c T332 L332 9 (40 + 2 * z2_288.toNatClampNeg) ∧ T332.heap = T288.heap ∧ Fr n0 L332 ∧ (if v315_0 = (0 : Int32) then (0 : Int32) else (if n2_288 = v327_0 then (1 : Int32) else (0 : Int32))) = v332_0 ∧ Steps p.tables e below (T288.setTop (mkF m 243 #[.val (.int p0), .val (.int p1), .val (.int p2), .val (.int p3), .val (.int p4), .val (.int xa), .val (.int ya), .val (.int za), .val (.int wa), .val (.int (3 : Int32)), .val (.ref b6), .val (.int v315_0), .val (.int r279), .val (.int r284), .val (.int r289), .val (.int v308_0), .val (.int v327_0)] [(.int v315_0)])) (T332.setTop (mkF m 261 #[.val (.int p0), .val (.int p1), .val (.int p2), .val (.int p3), .val (.int p4), .val (.int xa), .val (.int ya), .val (.int za), .val (.int wa), .val (.int (3 : Int32)), .val (.ref b6), .val (.int v315_0), .val (.int r279), .val (.int r284), .val (.int r289), .val (.int v308_0), .val (.int v327_0)] [(.int v332_0)])) := by
      have R332 := Steps.refl (tb := p.tables) (e := e) (below := below) (T288.setTop (mkF m 243 #[.val (.int p0), .val (.int p1), .val (.int p2), .val (.int p3), .val (.int p4), .val (.int xa), .val (.int ya), .val (.int za), .val (.int wa), .val (.int (3 : Int32)), .val (.ref b6), .val (.int v315_0), .val (.int r279), .val (.int r284), .val (.int r289), .val (.int v308_0), .val (.int v327_0)] [(.int v315_0)]))
      by_cases hc243 : v315_0 = (0 : Int32)
      · have K333 : Steps p.tables e below _ (T288.setTop (mkF m 261 #[.val (.int p0), .val (.int p1), .val (.int p2), .val (.int p3), .val (.int p4), .val (.int xa), .val (.int ya), .val (.int za), .val (.int wa), .val (.int (3 : Int32)), .val (.ref b6), .val (.int v315_0), .val (.int r279), .val (.int r284), .val (.int r289), .val (.int v308_0), .val (.int v327_0)] [(.int (0 : Int32))])) := R332.trans (by
          refine XS.ifYes X288g.here hx rfl (pc0 := 243) (pc' := 260) rfl (hb hby at_243) rfl ((if0 _ _).trans (teq hc243).1) (by decide) (by decide) ?_
          refine XS.iconst X288g.here hx rfl (hb hby at_260) ?_
          exact Steps.refl _)
        exact ⟨T288, _, (0 : Int32), X288g, rfl, Ng288, (by rw [if_pos hc243]), K333⟩
      · have K334 : Steps p.tables e below _ (T288.setTop (mkF m 248 #[.val (.int p0), .val (.int p1), .val (.int p2), .val (.int p3), .val (.int p4), .val (.int xa), .val (.int ya), .val (.int za), .val (.int wa), .val (.int (3 : Int32)), .val (.ref b6), .val (.int v315_0), .val (.int r279), .val (.int r284), .val (.int r289), .val (.int v308_0), .val (.int v327_0)] [(.ref b6)])) := R332.trans (by
          refine XS.ifNo X288g.here hx rfl (hb hby at_243) rfl ((if0 _ _).trans (feq hc243).1) ?_
          refine XS.aload X288g.here hx rfl (hb hby at_246) rfl rfl ?_
          exact Steps.refl _)
        have Z_335 : n0 ≤ T288.heap.size := (Nat.le_trans Z_287 Kp288.1)
        obtain ⟨cq336, kq336, q336a, q336b, q336c⟩ := isOf hZ rfl Q288_0
        obtain ⟨_, _, ⟨T336, L336, k336, n336⟩, -, X336, ⟨Lc336, hQ336, l336, y336, z336⟩, st336⟩ := X288g.virtualBack hx (y := (⟨"com/example/futures_from_states/futuresfromstates/model/StateSet", "size", "()I"⟩ : MethodName)) (z := (⟨"com/example/futures_from_states/futuresfromstates/model/StateSet", "size", "()I"⟩ : MethodName)) hown (mvT hZ (hw _ (List.mem_of_getElem? (i := 23) rfl))) (mvT hZ (hw _ (List.mem_of_getElem? (i := 24) rfl))) (notFace_of_selects (args := #[]) (mvT hZ (hw _ (List.mem_of_getElem? (i := 26) rfl)))) (mvT hZ (hw _ (List.mem_of_getElem? (i := 26) rfl))) (mvT hZ (hw _ (List.mem_of_getElem? (i := 25) rfl))) (by decide) (backOf (W := 0) (rm4 l Z a0 hw [] b6 n2_288 T288.heap n0 Z_335 Q288_3) hZ (hw _ (List.mem_of_getElem? (i := 27) rfl)) (hw _ (List.mem_of_getElem? (i := 3) rfl)) (by exact Nat.le_of_ble_eq_true rfl) (by exact Nat.le_of_ble_eq_true rfl)) q336a q336c (g := (mkF m 248 #[.val (.int p0), .val (.int p1), .val (.int p2), .val (.int p3), .val (.int p4), .val (.int xa), .val (.int ya), .val (.int za), .val (.int wa), .val (.int (3 : Int32)), .val (.ref b6), .val (.int v315_0), .val (.int r279), .val (.int r284), .val (.int r289), .val (.int v308_0), .val (.int v327_0)] [(.ref b6)])) rfl (by rw [hml]; rfl) K334 (argsL := []) (rest := []) (lenOf pd_3 rfl) rfl (by show 2 * 0 + _ ≤ _; exact Nat.le_of_eq rfl) (hb hby at_248) (fun _ _ => ⟨rfl, rfl, (by exact Nat.le_of_ble_eq_true rfl), (own_fin0 eq288_9)⟩)
        dsimp only [Pt.U, Pt.locs, Pt.cells, Pt.slots] at X336 l336 y336 z336 st336 hQ336
        subst l336 y336 z336
        obtain ⟨rfl, N336, eh336⟩ := hQ336
        have N336' := Fr.app Ng288 N336
        obtain ⟨Lg336, Xg336, Ng336⟩ : ∃ Lg, Stand p l e room_1 s m #[(.int p0), (.int p1), (.int p2), (.int p3), (.int p4)] below meth c T336 Lg 9 (40 + 2 * z2_288.toNatClampNeg) ∧ Fr n0 Lg := ⟨_, X336, N336'⟩
        have K337 : Steps p.tables e below _ (T336.setTop (mkF m 251 #[.val (.int p0), .val (.int p1), .val (.int p2), .val (.int p3), .val (.int p4), .val (.int xa), .val (.int ya), .val (.int za), .val (.int wa), .val (.int (3 : Int32)), .val (.ref b6), .val (.int v315_0), .val (.int r279), .val (.int r284), .val (.int r289), .val (.int v308_0), .val (.int v327_0)] [(.int n2_288)])) := st336
        have K338 : Steps p.tables e below _ (T336.setTop (mkF m 253 #[.val (.int p0), .val (.int p1), .val (.int p2), .val (.int p3), .val (.int p4), .val (.int xa), .val (.int ya), .val (.int za), .val (.int wa), .val (.int (3 : Int32)), .val (.ref b6), .val (.int v315_0), .val (.int r279), .val (.int r284), .val (.int r289), .val (.int v308_0), .val (.int v327_0)] [(.int v327_0), (.int n2_288)])) := K337.trans (by
          refine XS.iload Xg336.here hx rfl (hb hby at_251) rfl ?_
          exact Steps.refl _)
        by_cases hc253 : n2_288 = v327_0
        · have K339 : Steps p.tables e below _ (T336.setTop (mkF m 261 #[.val (.int p0), .val (.int p1), .val (.int p2), .val (.int p3), .val (.int p4), .val (.int xa), .val (.int ya), .val (.int za), .val (.int wa), .val (.int (3 : Int32)), .val (.ref b6), .val (.int v315_0), .val (.int r279), .val (.int r284), .val (.int r289), .val (.int v308_0), .val (.int v327_0)] [(.int (1 : Int32))])) := K338.trans (by
            refine XS.icmpNo Xg336.here hx rfl (hb hby at_253) rfl (teq hc253).2 ?_
            refine XS.iconst Xg336.here hx rfl (hb hby at_256) ?_
            refine XS.goto Xg336.here hx rfl (pc0 := 257) (pc' := 261) rfl (hb hby at_257) (by decide) (by decide) ?_
            exact Steps.refl _)
          exact ⟨T336, _, (1 : Int32), Xg336, eh336, Ng336, (by rw [if_neg hc243, if_pos hc253]), K339⟩
        · have K340 : Steps p.tables e below _ (T336.setTop (mkF m 261 #[.val (.int p0), .val (.int p1), .val (.int p2), .val (.int p3), .val (.int p4), .val (.int xa), .val (.int ya), .val (.int za), .val (.int wa), .val (.int (3 : Int32)), .val (.ref b6), .val (.int v315_0), .val (.int r279), .val (.int r284), .val (.int r289), .val (.int v308_0), .val (.int v327_0)] [(.int (0 : Int32))])) := K338.trans (by
            refine XS.icmpYes Xg336.here hx rfl (pc0 := 253) (pc' := 260) rfl (hb hby at_253) rfl (feq hc253).2 (by decide) (by decide) ?_
            refine XS.iconst Xg336.here hx rfl (hb hby at_260) ?_
            exact Steps.refl _)
          exact ⟨T336, _, (0 : Int32), Xg336, eh336, Ng336, (by rw [if_neg hc243, if_neg hc253]), K340⟩
    have K341 := K331.trans S332
    have K342 : Steps p.tables e below _ (T332.setTop (mkF m 265 #[.val (.int p0), .val (.int p1), .val (.int p2), .val (.int p3), .val (.int p4), .val (.int xa), .val (.int ya), .val (.int za), .val (.int wa), .val (.int (3 : Int32)), .val (.ref b6), .val (.int v332_0), .val (.int r279), .val (.int r284), .val (.int r289), .val (.int v308_0), .val (.int v327_0)] [(.int v332_0)])) := K341.trans (by
      refine XS.istore X332.here hx rfl (hb hby at_261) rfl (l' := #[.val (.int p0), .val (.int p1), .val (.int p2), .val (.int p3), .val (.int p4), .val (.int xa), .val (.int ya), .val (.int za), .val (.int wa), .val (.int (3 : Int32)), .val (.ref b6), .val (.int v332_0), .val (.int r279), .val (.int r284), .val (.int r289), .val (.int v308_0), .val (.int v327_0)]) rfl ?_
      refine XS.iload X332.here hx rfl (hb hby at_263) rfl ?_
      exact Steps.refl _)
    have hone : (v332_0 &&& 1) = (1 : Int32) := own_law_3 p0 p1 p2 p3 p4 xa ya za wa r256 n2_255 r261 n2_260 r266 n2_265 r279 n2_278 r284 n2_283 r289 n2_288 v292_0 v297_0 v308_0 v315_0 v322_0 v327_0 v332_0 hxa hya hza hwa hr256 hnn255 hr261 hnn260 hr266 hnn265 hr279 hnn278 hr284 hnn283 hr289 hnn288 hv292_0 hv297_0 hv308_0 hv315_0 hv322_0 hv327_0 hv332_0
    obtain ⟨fs, hr, hrun, hended, hW, hsame⟩ := X332.leave (v := some (.int (v332_0 &&& 1))) (fun h => by rw [Bd.returns] at h; cases h)
    exact ⟨_, _, K342.trans (retN X332 hx (t := .boolean) Bd.returns (by simp) (hb hby at_265) hr), hrun, hended, _, _, rfl, ⟨by rw [hone], N332⟩, ⟨_, rfl⟩, hW, hsame.mono (by decide) (own_fin eq288_9)⟩
set_option maxRecDepth 65536 in
set_option maxHeartbeats 40000000 in
theorem comes_1 {Post : Tables → Env → Array Value → State → Outcome → State → Prop} (hpost : ∀ tb e args s v u, (limb_1_1.after args s (.returned v) u = true ∧ limb_1_2.after args s (.returned v) u = true ∧ True) → FrameEnd s (.returned v) u (Jvm.fieldLocs frame_1_writes args s ++ Jvm.arrayLocs frame_1_arrays args s ++ Jvm.staticLocs frame_1_statics s) 24 98432 → Post tb e args s (.returned v) u) :
    ArmFor flags0 classFile x code maxLocals ret World_1 tables_1 room_1 Calls_1 rest_1 Pre_1 Post := by
  intro l hfl _ _ p e ha hc hk s m args below hf hA hF happ hP
  obtain ⟨hcalls, hrest, hpre⟩ := hP
  obtain ⟨-, -, -, hnamed, -, -, -, hat⟩ := (Spec.applies_iff hf).mp happ
  obtain ⟨hg, hn⟩ := and_e (Cond.before_iff.mp (show (Jvm.Cond.and given_1 narrow_1).before args s = true from hpre))
  obtain ⟨g1, g2⟩ := and_e hg
  obtain ⟨g3, g4⟩ := and_e g2
  obtain ⟨g5, g6⟩ := and_e g4
  obtain ⟨g7, g8⟩ := and_e g6
  obtain ⟨g9, g10⟩ := and_e g8
  obtain ⟨w0, w1, w2, w3, w4, rfl⟩ : ∃ w0 w1 w2 w3 w4 : Value, args = #[w0, w1, w2, w3, w4] := by
    have hs : args.size = 5 := by simpa [Cond.value, given_1] using g1
    obtain ⟨L⟩ := args
    match L, hs with
    | [w0, w1, w2, w3, w4], _ => exact ⟨w0, w1, w2, w3, w4, rfl⟩
  have hw := fun d (hd : d ∈ tables_1) => atoms_spec (ws := Jvm.Cond.code x code maxLocals ret :: tables_1) hat d (List.mem_cons_of_mem _ hd)
  obtain ⟨i0, ei0⟩ := is_v g3
  obtain rfl : w0 = (.int i0) := Option.some.inj ei0
  obtain ⟨i1, ei1⟩ := is_v g5
  obtain rfl : w1 = (.int i1) := Option.some.inj ei1
  obtain ⟨i2, ei2⟩ := is_v g7
  obtain rfl : w2 = (.int i2) := Option.some.inj ei2
  obtain ⟨i3, ei3⟩ := is_v g9
  obtain rfl : w3 = (.int i3) := Option.some.inj ei3
  obtain ⟨i4, ei4⟩ := is_v g10
  obtain rfl : w4 = (.int i4) := Option.some.inj ei4
  obtain ⟨n, o, h1, h2, h3, _, L, rfl, ⟨rfl, N⟩, hq⟩ := rm0 l s _ hw tables_1 i0 i1 i2 i3 i4 s.heap s.heap.size (Nat.le_refl _) p e ha hc hk s m _ below hf ((Spec.applies_iff_loose hf).mp happ).1 ⟨rfl, State.Warmed39.refl s, rfl⟩ trivial
  refine ⟨n, _, h1, h2, h3, hpost _ _ _ _ _ _ ⟨Cond.after_iff.mpr rfl, Cond.after_iff.mpr (eq_i res_at (Term.int_eval (1)) rfl), trivial⟩ ⟨hq.1, hq.2.1, (hq.2.2.sift fun y hy => Or.inr (N y hy)).mono (by decide) (by decide)⟩⟩
theorem main_1_1 : Claimed_1_1 := comes_1 fun _ _ _ _ _ _ h hF => ⟨h.1, hF⟩
theorem main_1_2 : Claimed_1_2 := comes_1 fun _ _ _ _ _ _ h hF => ⟨h.2.1, hF⟩
end Jvm.Pilot.@@N@@
namespace Jvm.Pilot.@@N@@
open Jvm Jvm.ClassFile Sem Op Lib Jvm.Free Jvm.Stand Jvm.Pilot.@@N@@.Jvm.D
/-! MADE BY PROGRAM (witnessworld.py) out of the Statement's table words and the real class files: 14 classes; the members and pool entries that the words name. The judged class is class 1, her method 1. -/
namespace start1
open Jvm.ClassFile
def u (s : String) : CpInfo := .utf8 (stringToUtf16 s)
/-- a pool by its gaps: so many unusable entries, then the entry; so many at the end -/
def gap : Nat → List CpInfo → List CpInfo
  | 0, r => r
  | n + 1, r => .unusable :: gap n r
def poolList (es : List (Nat × CpInfo)) (last : Nat) : List CpInfo := es.foldr (fun e r => gap e.1 (e.2 :: r)) (gap last [])
def pool (es : List (Nat × CpInfo)) (last : Nat) : Array CpInfo := ⟨poolList es last⟩
def fileOf (pool : Array CpInfo) (this : Nat) (attrs : Array Attribute := #[]) (ms : Array MethodInfo := #[]) (fl : Nat := 33) (sup : Nat := 0) (ifs : Array Nat := #[]) (fds : Array FieldInfo := #[]) : ClassFile where
  minorVersion := 0
  majorVersion := 65
  constantPool := pool
  accessFlags := fl
  thisClass := this
  superClass := sup
  interfaces := ifs
  fields := fds
  methods := ms
  attributes := attrs
def plain (name : String) (sup : Option ClassId) : Class where
  name := name
  kind := .ordinary
  loader := none
  accessFlags := 33
  super := sup
  interfaces := #[]
  cf := none
  fields := #[]
  methods := #[]
  instanceTypes := #[]
  staticTypes := #[]
  resolved := #[]
  callSites := []
  init := .initialized
  statics := none
  mirror := none

def pool0 : Array CpInfo := pool [(5, u "<init>"), (0, u "()V"), (1, .class_ 10), (1, u "java/lang/Object")] 113

def k0c0 : Code := { maxStack := 0, maxLocals := 1, code := object_method_1_code, exceptionTable := #[], attributes := #[] }
def k0m0 : Method := { name := "<init>", desc := "()V", sig := { parameters := [], returnType := none }, accessFlags := 1, code := some k0c0 }
/-- java/lang/Object -/
def k0 : Class := { plain "java/lang/Object" none with
  accessFlags := 33
  interfaces := #[]
  cf := some (fileOf pool0 8 #[] #[{ accessFlags := 1, nameIndex := 5, descriptorIndex := 6, attributes := #[] }] 33 0 #[] #[])
  fields := #[]
  methods := #[k0m0]
  instanceTypes := #[]
  staticTypes := #[]
  resolved := Array.replicate 124 none
  statics := none }

def pool1 : Array CpInfo := pool [(2, .class_ 4), (0, .nameAndType 5 6), (0, u "java/lang/Object"), (0, u "<init>"), (0, u "()V"), (0, .integer 1048575), (0, .class_ 9), (0, u "com/example/futures_from_states/futuresfromstates/model/StateSet"), (0, .methodref 8 3), (0, .methodref 8 12), (0, .nameAndType 13 14), (0, u "add"), (0, u "(I)Z"), (0, .methodref 8 16), (0, .nameAndType 17 6), (0, u "clear"), (0, .methodref 8 19), (0, .nameAndType 20 21), (0, u "size"), (0, u "()I"), (0, .class_ 23), (0, u "com/example/futures_from_states/futuresfromstates/model/StateSetClearPinLaw"), (2, u "law"), (0, u "(IIIII)Z")] 3

def k1m0 : Method := { name := "<init>", desc := "()V", sig := { parameters := [], returnType := none }, accessFlags := 1, code := none }
def k1c1 : Code := { maxStack := 3, maxLocals := 17, code := code, exceptionTable := #[], attributes := #[] }
def k1m1 : Method := { name := "law", desc := "(IIIII)Z", sig := { parameters := [.int, .int, .int, .int, .int], returnType := some .boolean }, accessFlags := 9, code := some k1c1 }
/-- com/example/futures_from_states/futuresfromstates/model/StateSetClearPinLaw -/
def k1 : Class := { plain "com/example/futures_from_states/futuresfromstates/model/StateSetClearPinLaw" (some 0) with
  accessFlags := 49
  interfaces := #[]
  cf := some (fileOf pool1 22 #[] #[{ accessFlags := 1, nameIndex := 5, descriptorIndex := 6, attributes := #[] }, { accessFlags := 9, nameIndex := 26, descriptorIndex := 27, attributes := #[] }] 49 2 #[] #[])
  fields := #[]
  methods := #[k1m0, k1m1]
  instanceTypes := #[]
  staticTypes := #[]
  resolved := Array.replicate 31 none
  statics := none }

def pool2 : Array CpInfo := pool [(1, .methodref 2 3), (0, .class_ 4), (0, .nameAndType 5 6), (0, u "java/lang/Object"), (0, u "<init>"), (0, u "()V"), (0, .fieldref 8 9), (0, .class_ 10), (0, .nameAndType 11 12), (0, u "com/example/futures_from_states/futuresfromstates/model/StateSet"), (0, u "bits"), (0, u "[J"), (0, .fieldref 8 14), (0, .nameAndType 15 16), (0, u "members"), (0, u "[I"), (0, .methodref 18 19), (0, .class_ 20), (0, .nameAndType 21 22), (0, u "java/lang/Math"), (0, u "max"), (0, u "(II)I"), (0, .methodref 24 25), (0, .class_ 26), (0, .nameAndType 27 28), (0, u "java/util/Arrays"), (0, u "copyOf"), (0, u "([JI)[J"), (0, .fieldref 8 30), (0, .nameAndType 31 32), (0, u "size"), (0, u "I"), (3, .long 18446744073709551615), (3, u "add"), (0, u "(I)Z"), (1, u "()I"), (0, u "clear")] 2

def k2c0 : Code := { maxStack := 2, maxLocals := 1, code := prog_83_method_1_code, exceptionTable := #[], attributes := #[] }
def k2m0 : Method := { name := "<init>", desc := "()V", sig := { parameters := [], returnType := none }, accessFlags := 0, code := some k2c0 }
def k2c1 : Code := { maxStack := 7, maxLocals := 4, code := prog_83_method_2_code, exceptionTable := #[], attributes := #[] }
def k2m1 : Method := { name := "add", desc := "(I)Z", sig := { parameters := [.int], returnType := some .boolean }, accessFlags := 0, code := some k2c1 }
def k2c2 : Code := { maxStack := 1, maxLocals := 1, code := prog_83_method_3_code, exceptionTable := #[], attributes := #[] }
def k2m2 : Method := { name := "size", desc := "()I", sig := { parameters := [], returnType := some .int }, accessFlags := 0, code := some k2c2 }
def k2c3 : Code := { maxStack := 8, maxLocals := 2, code := prog_83_method_4_code, exceptionTable := #[], attributes := #[] }
def k2m3 : Method := { name := "clear", desc := "()V", sig := { parameters := [], returnType := none }, accessFlags := 0, code := some k2c3 }
/-- com/example/futures_from_states/futuresfromstates/model/StateSet -/
def k2 : Class := { plain "com/example/futures_from_states/futuresfromstates/model/StateSet" (some 0) with
  accessFlags := 32
  interfaces := #[]
  cf := some (fileOf pool2 8 #[] #[{ accessFlags := 0, nameIndex := 5, descriptorIndex := 6, attributes := #[] }, { accessFlags := 0, nameIndex := 40, descriptorIndex := 41, attributes := #[] }, { accessFlags := 0, nameIndex := 31, descriptorIndex := 43, attributes := #[] }, { accessFlags := 0, nameIndex := 44, descriptorIndex := 6, attributes := #[] }] 32 2 #[] #[{ accessFlags := 2, nameIndex := 11, descriptorIndex := 12, attributes := #[] }, { accessFlags := 2, nameIndex := 15, descriptorIndex := 16, attributes := #[] }, { accessFlags := 2, nameIndex := 31, descriptorIndex := 32, attributes := #[] }])
  fields := #[{ name := "bits", type := (.array .long), accessFlags := 2, slot := 0, constantValue := 0 }, { name := "members", type := (.array .int), accessFlags := 2, slot := 1, constantValue := 0 }, { name := "size", type := .int, accessFlags := 2, slot := 2, constantValue := 0 }]
  methods := #[k2m0, k2m1, k2m2, k2m3]
  instanceTypes := #[(.array .long), (.array .int), .int]
  staticTypes := #[]
  resolved := Array.replicate 47 none
  statics := none }

def pool3 : Array CpInfo := pool [(1, .class_ 2), (0, u "java/lang/Math"), (1, .class_ 6), (1, u "java/lang/Object"), (0, u "<init>"), (0, u "()V"), (89, .class_ 100), (1, u "java/lang/Math$RandomNumberGeneratorHolder"), (71, u "negativeZeroFloatBits"), (0, u "J"), (2, u "negativeZeroDoubleBits"), (21, u "max"), (2, u "min"), (43, u "$assertionsDisabled"), (0, u "Z"), (88, u "(II)I"), (2, u "twoToTheDoubleScaleDown"), (0, u "D"), (4, u "twoToTheDoubleScaleUp"), (9, u "E"), (3, u "PI"), (2, u "TAU"), (2, u "DEGREES_TO_RADIANS"), (0, u "RADIANS_TO_DEGREES")] 94

def k3m0 : Method := { name := "<init>", desc := "()V", sig := { parameters := [], returnType := none }, accessFlags := 2, code := none }
def k3c1 : Code := { maxStack := 2, maxLocals := 2, code := jdk_29_method_65_code, exceptionTable := #[], attributes := #[] }
def k3m1 : Method := { name := "max", desc := "(II)I", sig := { parameters := [.int, .int], returnType := some .int }, accessFlags := 9, code := some k3c1 }
def k3c2 : Code := { maxStack := 2, maxLocals := 2, code := jdk_29_method_69_code, exceptionTable := #[], attributes := #[] }
def k3m2 : Method := { name := "min", desc := "(II)I", sig := { parameters := [.int, .int], returnType := some .int }, accessFlags := 9, code := some k3c2 }
/-- java/lang/Math -/
def k3 : Class := { plain "java/lang/Math" (some 0) with
  accessFlags := 49
  interfaces := #[]
  cf := some (fileOf pool3 1 #[.nestMembers #[98]] #[{ accessFlags := 2, nameIndex := 7, descriptorIndex := 8, attributes := #[] }, { accessFlags := 9, nameIndex := 198, descriptorIndex := 335, attributes := #[] }, { accessFlags := 9, nameIndex := 201, descriptorIndex := 335, attributes := #[] }] 49 4 #[] #[{ accessFlags := 25, nameIndex := 354, descriptorIndex := 339, attributes := #[] }, { accessFlags := 25, nameIndex := 358, descriptorIndex := 339, attributes := #[] }, { accessFlags := 25, nameIndex := 361, descriptorIndex := 339, attributes := #[] }, { accessFlags := 26, nameIndex := 364, descriptorIndex := 339, attributes := #[] }, { accessFlags := 26, nameIndex := 365, descriptorIndex := 339, attributes := #[] }, { accessFlags := 26, nameIndex := 172, descriptorIndex := 173, attributes := #[] }, { accessFlags := 26, nameIndex := 176, descriptorIndex := 173, attributes := #[] }, { accessFlags := 8, nameIndex := 344, descriptorIndex := 339, attributes := #[] }, { accessFlags := 8, nameIndex := 338, descriptorIndex := 339, attributes := #[] }, { accessFlags := 4120, nameIndex := 245, descriptorIndex := 246, attributes := #[] }])
  fields := #[{ name := "E", type := .double, accessFlags := 25, slot := 0, constantValue := 0 }, { name := "PI", type := .double, accessFlags := 25, slot := 1, constantValue := 0 }, { name := "TAU", type := .double, accessFlags := 25, slot := 2, constantValue := 0 }, { name := "DEGREES_TO_RADIANS", type := .double, accessFlags := 26, slot := 3, constantValue := 0 }, { name := "RADIANS_TO_DEGREES", type := .double, accessFlags := 26, slot := 4, constantValue := 0 }, { name := "negativeZeroFloatBits", type := .long, accessFlags := 26, slot := 5, constantValue := 0 }, { name := "negativeZeroDoubleBits", type := .long, accessFlags := 26, slot := 6, constantValue := 0 }, { name := "twoToTheDoubleScaleUp", type := .double, accessFlags := 8, slot := 7, constantValue := 0 }, { name := "twoToTheDoubleScaleDown", type := .double, accessFlags := 8, slot := 8, constantValue := 0 }, { name := "$assertionsDisabled", type := .boolean, accessFlags := 4120, slot := 9, constantValue := 0 }]
  methods := #[k3m0, k3m1, k3m2]
  instanceTypes := #[]
  staticTypes := #[.double, .double, .double, .double, .double, .long, .long, .double, .double, .boolean]
  resolved := Array.replicate 460 none
  statics := none }

def pool4 : Array CpInfo := pool [(2, .class_ 4), (1, u "java/lang/Object"), (0, u "<init>"), (0, u "()V"), (7, .class_ 16), (1, u "java/util/Arrays"), (57, .class_ 76), (1, u "java/util/Arrays$NaturalOrder"), (36, .class_ 115), (1, u "java/util/Arrays$LegacyMergeSort"), (1, u "Z"), (32, .methodref 151 152), (0, .class_ 153), (0, .nameAndType 154 155), (0, u "java/lang/System"), (0, u "arraycopy"), (0, u "(Ljava/lang/Object;ILjava/lang/Object;II)V"), (146, u "copyOf"), (1, .methodref 305 306), (0, .class_ 307), (0, .nameAndType 308 309), (0, u "java/lang/Math"), (0, u "min"), (0, u "(II)I"), (65, .class_ 376), (0, u "java/util/Arrays$ArrayList"), (68, u "$assertionsDisabled"), (269, u "MIN_ARRAY_SORT_GRAN"), (0, u "I"), (2, u "INSERTIONSORT_THRESHOLD"), (152, u "([JI)[J"), (102, .class_ 976), (0, u "java/util/Arrays$ArrayItr")] 52

def k4m0 : Method := { name := "<init>", desc := "()V", sig := { parameters := [], returnType := none }, accessFlags := 2, code := none }
def k4c1 : Code := { maxStack := 6, maxLocals := 3, code := jdk_65_method_124_code, exceptionTable := #[], attributes := #[] }
def k4m1 : Method := { name := "copyOf", desc := "([JI)[J", sig := { parameters := [(.array .long), .int], returnType := some (.array .long) }, accessFlags := 9, code := some k4c1 }
/-- java/util/Arrays -/
def k4 : Class := { plain "java/util/Arrays" (some 0) with
  accessFlags := 49
  interfaces := #[]
  cf := some (fileOf pool4 14 #[.nestMembers #[975, 375, 113, 74]] #[{ accessFlags := 2, nameIndex := 5, descriptorIndex := 6, attributes := #[] }, { accessFlags := 9, nameIndex := 302, descriptorIndex := 872, attributes := #[] }] 49 2 #[] #[{ accessFlags := 26, nameIndex := 715, descriptorIndex := 716, attributes := #[] }, { accessFlags := 26, nameIndex := 719, descriptorIndex := 716, attributes := #[] }, { accessFlags := 4120, nameIndex := 445, descriptorIndex := 117, attributes := #[] }])
  fields := #[{ name := "MIN_ARRAY_SORT_GRAN", type := .int, accessFlags := 26, slot := 0, constantValue := 0 }, { name := "INSERTIONSORT_THRESHOLD", type := .int, accessFlags := 26, slot := 1, constantValue := 0 }, { name := "$assertionsDisabled", type := .boolean, accessFlags := 4120, slot := 2, constantValue := 0 }]
  methods := #[k4m0, k4m1]
  instanceTypes := #[]
  staticTypes := #[.int, .int, .boolean]
  resolved := Array.replicate 1029 none
  statics := none }

def pool5 : Array CpInfo := pool [(2, .class_ 4), (1, u "java/lang/Object"), (0, u "<init>"), (0, u "()V"), (1, .class_ 10), (1, u "java/lang/System"), (0, u "allowSecurityManager"), (0, u "I"), (16, u "cons"), (0, u "Ljava/io/Console;"), (77, .class_ 110), (1, u "java/lang/System$CallersHolder"), (43, u "initialErrStream"), (0, u "Ljava/io/PrintStream;"), (19, u "security"), (0, u "Ljava/lang/SecurityManager;"), (31, .class_ 209), (0, u "java/lang/System$1"), (7, u "props"), (0, u "Ljava/util/Properties;"), (2, u "lineSeparator"), (0, u "Ljava/lang/String;"), (96, .class_ 321), (1, u "java/lang/System$LoggerFinder"), (5, .class_ 328), (0, u "java/lang/System$Logger"), (67, u "err"), (2, u "out"), (91, u "notSupportedJnuEncoding"), (15, u "in"), (17, u "initialIn"), (0, u "Ljava/io/InputStream;"), (35, u "bootLayer"), (0, u "Ljava/lang/ModuleLayer;"), (99, .class_ 664), (0, u "java/lang/System$2"), (9, u "NEVER"), (2, u "MAYBE"), (49, u "arraycopy"), (0, u "(Ljava/lang/Object;ILjava/lang/Object;II)V"), (72, .class_ 802), (0, u "java/lang/System$Logger$Level")] 31

def k5m0 : Method := { name := "<init>", desc := "()V", sig := { parameters := [], returnType := none }, accessFlags := 2, code := none }
def k5m1 : Method := { name := "arraycopy", desc := "(Ljava/lang/Object;ILjava/lang/Object;II)V", sig := { parameters := [(.object "java/lang/Object"), .int, (.object "java/lang/Object"), .int, .int], returnType := none }, accessFlags := 265, code := none }
/-- java/lang/System -/
def k5 : Class := { plain "java/lang/System" (some 0) with
  accessFlags := 49
  interfaces := #[]
  cf := some (fileOf pool5 8 #[.nestMembers #[319, 327, 801, 108, 663, 208]] #[{ accessFlags := 2, nameIndex := 5, descriptorIndex := 6, attributes := #[] }, { accessFlags := 265, nameIndex := 727, descriptorIndex := 728, attributes := #[] }] 49 2 #[] #[{ accessFlags := 25, nameIndex := 507, descriptorIndex := 526, attributes := #[] }, { accessFlags := 25, nameIndex := 399, descriptorIndex := 155, attributes := #[] }, { accessFlags := 25, nameIndex := 396, descriptorIndex := 155, attributes := #[] }, { accessFlags := 10, nameIndex := 525, descriptorIndex := 526, attributes := #[] }, { accessFlags := 26, nameIndex := 674, descriptorIndex := 12, attributes := #[] }, { accessFlags := 26, nameIndex := 677, descriptorIndex := 12, attributes := #[] }, { accessFlags := 10, nameIndex := 11, descriptorIndex := 12, attributes := #[] }, { accessFlags := 74, nameIndex := 175, descriptorIndex := 176, attributes := #[] }, { accessFlags := 10, nameIndex := 491, descriptorIndex := 222, attributes := #[] }, { accessFlags := 74, nameIndex := 29, descriptorIndex := 30, attributes := #[] }, { accessFlags := 74, nameIndex := 154, descriptorIndex := 155, attributes := #[] }, { accessFlags := 10, nameIndex := 217, descriptorIndex := 218, attributes := #[] }, { accessFlags := 10, nameIndex := 221, descriptorIndex := 222, attributes := #[] }, { accessFlags := 8, nameIndex := 562, descriptorIndex := 563, attributes := #[] }])
  fields := #[{ name := "in", type := (.object "java/io/InputStream"), accessFlags := 25, slot := 0, constantValue := 0 }, { name := "out", type := (.object "java/io/PrintStream"), accessFlags := 25, slot := 1, constantValue := 0 }, { name := "err", type := (.object "java/io/PrintStream"), accessFlags := 25, slot := 2, constantValue := 0 }, { name := "initialIn", type := (.object "java/io/InputStream"), accessFlags := 10, slot := 3, constantValue := 0 }, { name := "NEVER", type := .int, accessFlags := 26, slot := 4, constantValue := 0 }, { name := "MAYBE", type := .int, accessFlags := 26, slot := 5, constantValue := 0 }, { name := "allowSecurityManager", type := .int, accessFlags := 10, slot := 6, constantValue := 0 }, { name := "security", type := (.object "java/lang/SecurityManager"), accessFlags := 74, slot := 7, constantValue := 0 }, { name := "notSupportedJnuEncoding", type := (.object "java/lang/String"), accessFlags := 10, slot := 8, constantValue := 0 }, { name := "cons", type := (.object "java/io/Console"), accessFlags := 74, slot := 9, constantValue := 0 }, { name := "initialErrStream", type := (.object "java/io/PrintStream"), accessFlags := 74, slot := 10, constantValue := 0 }, { name := "props", type := (.object "java/util/Properties"), accessFlags := 10, slot := 11, constantValue := 0 }, { name := "lineSeparator", type := (.object "java/lang/String"), accessFlags := 10, slot := 12, constantValue := 0 }, { name := "bootLayer", type := (.object "java/lang/ModuleLayer"), accessFlags := 8, slot := 13, constantValue := 0 }]
  methods := #[k5m0, k5m1]
  instanceTypes := #[]
  staticTypes := #[(.object "java/io/InputStream"), (.object "java/io/PrintStream"), (.object "java/io/PrintStream"), (.object "java/io/InputStream"), .int, .int, .int, (.object "java/lang/SecurityManager"), (.object "java/lang/String"), (.object "java/io/Console"), (.object "java/io/PrintStream"), (.object "java/util/Properties"), (.object "java/lang/String"), (.object "java/lang/ModuleLayer")]
  resolved := Array.replicate 834 none
  statics := none }

def pool6 : Array CpInfo := pool [(1, u "java/lang/Cloneable"), (0, .class_ 1), (0, u "java/lang/Object"), (0, .class_ 3)] 3

/-- java/lang/Cloneable -/
def k6 : Class := { plain "java/lang/Cloneable" (some 0) with
  accessFlags := 1537
  interfaces := #[]
  cf := some (fileOf pool6 2 #[] #[] 1537 4 #[] #[])
  fields := #[]
  methods := #[]
  instanceTypes := #[]
  staticTypes := #[]
  resolved := Array.replicate 8 none
  statics := none }

def pool7 : Array CpInfo := pool [(1, u "java/io/Serializable"), (0, .class_ 1), (0, u "java/lang/Object"), (0, .class_ 3)] 3

/-- java/io/Serializable -/
def k7 : Class := { plain "java/io/Serializable" (some 0) with
  accessFlags := 1537
  interfaces := #[]
  cf := some (fileOf pool7 2 #[] #[] 1537 4 #[] #[])
  fields := #[]
  methods := #[]
  instanceTypes := #[]
  staticTypes := #[]
  resolved := Array.replicate 8 none
  statics := none }

/-- the primitive byte -/
def k8 : Class := { plain "byte" none with kind := .primitive 'B', accessFlags := 0x411 }
/-- [B -/
def k9 : Class := { plain "[B" (some 0) with kind := .array 8 .byte, interfaces := #[6, 7], accessFlags := 1041 }

/-- the primitive int -/
def k10 : Class := { plain "int" none with kind := .primitive 'I', accessFlags := 0x411 }
/-- [I -/
def k11 : Class := { plain "[I" (some 0) with kind := .array 10 .int, interfaces := #[6, 7], accessFlags := 1041 }

/-- the primitive long -/
def k12 : Class := { plain "long" none with kind := .primitive 'J', accessFlags := 0x411 }
/-- [J -/
def k13 : Class := { plain "[J" (some 0) with kind := .array 12 .long, interfaces := #[6, 7], accessFlags := 1041 }

def heap : Heap := #[]
def classes : Array Class := #[k0, k1, k2, k3, k4, k5, k6, k7, k8, k9, k10, k11, k12, k13]
def interned : List (Array UInt16 × Addr) := []
def slotsUsed : Nat := 0
def theMethod : MethodId := ⟨1, 1⟩
def args0 : Array Value := #[.int 3, .int 3, .int 3, .int 3, .int 3]
def aboutOver (below : List Frame) : State where
  vm := { classes := classes, interned := interned.toArray }
  heap := heap
  slotsUsed := slotsUsed
  threads := #[{ frames := .invoking theMethod args0 :: below }]
def below0 : List Frame := [.native { method := ⟨0, 0⟩, args := #[] }]
def about1 : State := aboutOver below0
def p0 : Program := .bare "" "" ""
def e0 : Env := launch0.env 0 0 0
theorem w_frames : about1.frames = Frame.invoking theMethod args0 :: below0 := rfl
set_option maxRecDepth 65536 in
theorem w_args : argsFit about1.vm theMethod args0 = true := by decide +kernel
set_option maxRecDepth 65536 in
theorem w_heap : heapFits about1 = true := by decide +kernel
set_option maxRecDepth 65536 in
theorem w_runnable : about1.curStatus? = some .runnable := by decide +kernel
set_option maxRecDepth 65536 in
theorem w_alone : about1.alone = true := by decide +kernel
set_option maxRecDepth 65536 in
theorem w_named : about1.methodNamed? x = some theMethod := by decide +kernel
set_option maxRecDepth 65536 in
theorem w_hears : about1.hears theMethod below0 = true := by decide +kernel
set_option maxRecDepth 65536 in
theorem w_ripe : about1.ripe theMethod args0 below0 = true := by decide +kernel
theorem w_running : about1.status = .running := rfl
set_option maxRecDepth 65536 in
theorem w_room : about1.hasRoom e0.platform room_1 = true :=
  launch0.hasRoom_least _ room_1 (by decide +kernel) (by decide +kernel) (by decide +kernel) (by decide +kernel) (by decide +kernel) (by decide +kernel)
theorem allAtoms_all (ts : List Jvm.Cond) (a : Array Jvm.Value) (st : Jvm.State) : (allAtoms ts).before a st = ts.all (fun c => c.before a st) := by
  induction ts with
  | nil => rfl
  | cons c t ih =>
    show (Jvm.Cond.and c (allAtoms t)).before a st = _
    rw [Jvm.Cond.before_and, ih, List.all_cons]
def words1 : List Jvm.Cond := Jvm.Cond.code x code maxLocals ret :: tables_1
/-- a 'code' word, met by the world's own term for the bytes: nothing is compared byte by byte -/
theorem code_word {y : MethodName} {bytes : ByteArray} {mx : Nat} {rt : Option FieldType} {a : Array Value} {s : State} {m : MethodId} {meth : Method} {c : Code} (h1 : s.methodNamed? y = some m) (h2 : s.vm.method? m = some meth) (h3 : meth.code = some c) (h4 : c.code = bytes)
    (h5 : (c.maxLocals == mx && c.exceptionTable.isEmpty && decide (c.maxStack ≤ mostOperands) && decide (meth.sig.returnType = rt) && !meth.locks && decide (parseMethodDescriptor y.desc = some meth.sig)) = true) : (Jvm.Cond.code y bytes mx rt).before a s = true := by
  simp only [Bool.and_eq_true, beq_iff_eq, Bool.not_eq_true', decide_eq_true_eq] at h5
  obtain ⟨⟨⟨⟨⟨g1, g2⟩, g3⟩, g4⟩, g5⟩, g6⟩ := h5
  simp [Cond.before, Cond.holds, Cond.value, h1, h2, h3, h4, g1, g2, g3, g4, g5, g6]
def isCode : Jvm.Cond → Bool
  | .code _ _ _ _ => true
  | _ => false
theorem all_split {L : List Jvm.Cond} {P : Jvm.Cond → Bool} (h1 : L.all (fun c => isCode c || P c) = true) (h2 : ∀ c ∈ L.filter isCode, P c = true) : L.all P = true := by
  refine List.all_eq_true.mpr fun c hc => ?_
  have h := List.all_eq_true.mp h1 c hc
  rcases Bool.eq_false_or_eq_true (isCode c) with hi | hi
  · exact h2 c (List.mem_filter.mpr ⟨hc, hi⟩)
  · simpa [hi] using h
set_option maxRecDepth 65536 in
theorem w_c0 : (Jvm.Cond.code x code maxLocals ret).before args0 about1 = true := code_word (m := ⟨1, 1⟩) (meth := k1m1) (c := k1c1) (by decide +kernel) rfl rfl rfl (by decide +kernel)
set_option maxRecDepth 65536 in
theorem w_c1 : (Jvm.Cond.code ({ cls := "com/example/futures_from_states/futuresfromstates/model/StateSet", name := "<init>", desc := "()V" } : Jvm.MethodName) prog_83_method_1_code (1 : Nat) (Option.none : Option Jvm.ClassFile.FieldType)).before args0 about1 = true := code_word (m := ⟨2, 0⟩) (meth := k2m0) (c := k2c0) (by decide +kernel) rfl rfl rfl (by decide +kernel)
set_option maxRecDepth 65536 in
theorem w_c2 : (Jvm.Cond.code ({ cls := "java/lang/Object", name := "<init>", desc := "()V" } : Jvm.MethodName) object_method_1_code (1 : Nat) (Option.none : Option Jvm.ClassFile.FieldType)).before args0 about1 = true := code_word (m := ⟨0, 0⟩) (meth := k0m0) (c := k0c0) (by decide +kernel) rfl rfl rfl (by decide +kernel)
set_option maxRecDepth 65536 in
theorem w_c3 : (Jvm.Cond.code ({ cls := "com/example/futures_from_states/futuresfromstates/model/StateSet", name := "clear", desc := "()V" } : Jvm.MethodName) prog_83_method_4_code (2 : Nat) (Option.none : Option Jvm.ClassFile.FieldType)).before args0 about1 = true := code_word (m := ⟨2, 3⟩) (meth := k2m3) (c := k2c3) (by decide +kernel) rfl rfl rfl (by decide +kernel)
set_option maxRecDepth 65536 in
theorem w_c4 : (Jvm.Cond.code ({ cls := "com/example/futures_from_states/futuresfromstates/model/StateSet", name := "size", desc := "()I" } : Jvm.MethodName) prog_83_method_3_code (1 : Nat) (Option.some Jvm.ClassFile.FieldType.int)).before args0 about1 = true := code_word (m := ⟨2, 2⟩) (meth := k2m2) (c := k2c2) (by decide +kernel) rfl rfl rfl (by decide +kernel)
set_option maxRecDepth 65536 in
theorem w_c5 : (Jvm.Cond.code ({ cls := "com/example/futures_from_states/futuresfromstates/model/StateSet", name := "add", desc := "(I)Z" } : Jvm.MethodName) prog_83_method_2_code (4 : Nat) (Option.some Jvm.ClassFile.FieldType.boolean)).before args0 about1 = true := code_word (m := ⟨2, 1⟩) (meth := k2m1) (c := k2c1) (by decide +kernel) rfl rfl rfl (by decide +kernel)
set_option maxRecDepth 65536 in
theorem w_c6 : (Jvm.Cond.code ({ cls := "java/lang/Math", name := "max", desc := "(II)I" } : Jvm.MethodName) jdk_29_method_65_code (2 : Nat) (Option.some Jvm.ClassFile.FieldType.int)).before args0 about1 = true := code_word (m := ⟨3, 1⟩) (meth := k3m1) (c := k3c1) (by decide +kernel) rfl rfl rfl (by decide +kernel)
set_option maxRecDepth 65536 in
theorem w_c7 : (Jvm.Cond.code ({ cls := "java/util/Arrays", name := "copyOf", desc := "([JI)[J" } : Jvm.MethodName) jdk_65_method_124_code (3 : Nat) (Option.some (Jvm.ClassFile.FieldType.array Jvm.ClassFile.FieldType.long))).before args0 about1 = true := code_word (m := ⟨4, 1⟩) (meth := k4m1) (c := k4c1) (by decide +kernel) rfl rfl rfl (by decide +kernel)
set_option maxRecDepth 65536 in
theorem w_c8 : (Jvm.Cond.code ({ cls := "java/lang/Math", name := "min", desc := "(II)I" } : Jvm.MethodName) jdk_29_method_69_code (2 : Nat) (Option.some Jvm.ClassFile.FieldType.int)).before args0 about1 = true := code_word (m := ⟨3, 2⟩) (meth := k3m2) (c := k3c2) (by decide +kernel) rfl rfl rfl (by decide +kernel)
def codes1 : List Jvm.Cond := [Jvm.Cond.code x code maxLocals ret, Jvm.Cond.code ({ cls := "com/example/futures_from_states/futuresfromstates/model/StateSet", name := "<init>", desc := "()V" } : Jvm.MethodName) prog_83_method_1_code (1 : Nat) (Option.none : Option Jvm.ClassFile.FieldType), Jvm.Cond.code ({ cls := "java/lang/Object", name := "<init>", desc := "()V" } : Jvm.MethodName) object_method_1_code (1 : Nat) (Option.none : Option Jvm.ClassFile.FieldType), Jvm.Cond.code ({ cls := "com/example/futures_from_states/futuresfromstates/model/StateSet", name := "clear", desc := "()V" } : Jvm.MethodName) prog_83_method_4_code (2 : Nat) (Option.none : Option Jvm.ClassFile.FieldType), Jvm.Cond.code ({ cls := "com/example/futures_from_states/futuresfromstates/model/StateSet", name := "size", desc := "()I" } : Jvm.MethodName) prog_83_method_3_code (1 : Nat) (Option.some Jvm.ClassFile.FieldType.int), Jvm.Cond.code ({ cls := "com/example/futures_from_states/futuresfromstates/model/StateSet", name := "add", desc := "(I)Z" } : Jvm.MethodName) prog_83_method_2_code (4 : Nat) (Option.some Jvm.ClassFile.FieldType.boolean), Jvm.Cond.code ({ cls := "java/lang/Math", name := "max", desc := "(II)I" } : Jvm.MethodName) jdk_29_method_65_code (2 : Nat) (Option.some Jvm.ClassFile.FieldType.int), Jvm.Cond.code ({ cls := "java/util/Arrays", name := "copyOf", desc := "([JI)[J" } : Jvm.MethodName) jdk_65_method_124_code (3 : Nat) (Option.some (Jvm.ClassFile.FieldType.array Jvm.ClassFile.FieldType.long)), Jvm.Cond.code ({ cls := "java/lang/Math", name := "min", desc := "(II)I" } : Jvm.MethodName) jdk_29_method_69_code (2 : Nat) (Option.some Jvm.ClassFile.FieldType.int)]
set_option maxRecDepth 65536 in
theorem codes_eq : words1.filter isCode = codes1 := rfl
theorem w_codes : ∀ c ∈ words1.filter isCode, c.before args0 about1 = true := by
  rw [codes_eq]
  intro c hc
  simp only [codes1, List.mem_cons, List.not_mem_nil, or_false] at hc
  rcases hc with rfl | rfl | rfl | rfl | rfl | rfl | rfl | rfl | rfl
  · exact w_c0
  · exact w_c1
  · exact w_c2
  · exact w_c3
  · exact w_c4
  · exact w_c5
  · exact w_c6
  · exact w_c7
  · exact w_c8
set_option maxRecDepth 65536 in
theorem w_t1 : (words1.take 24).all (fun c => isCode c || c.before args0 about1) = true := by decide +kernel
set_option maxRecDepth 65536 in
theorem w_t2 : ((words1.drop 24).take 24).all (fun c => isCode c || c.before args0 about1) = true := by decide +kernel
set_option maxRecDepth 65536 in
theorem w_t3 : ((words1.drop 24).drop 24).all (fun c => isCode c || c.before args0 about1) = true := by decide +kernel
theorem w_tables : (allAtoms (Jvm.Cond.code x code maxLocals ret :: tables_1)).before args0 about1 = true := by
  rw [allAtoms_all]
  show words1.all (fun c => c.before args0 about1) = true
  refine all_split ?_ w_codes
  rw [← List.take_append_drop 24 words1, List.all_append, w_t1, ← List.take_append_drop 24 (words1.drop 24), List.all_append, w_t2, w_t3]
  rfl
set_option maxRecDepth 65536 in
theorem w_case : (Jvm.Cond.and given_1 narrow_1).before args0 about1 = true := by decide +kernel
theorem w_applies : (headSpec (Jvm.Cond.code x code maxLocals ret :: tables_1) room_1).applies x e0.platform about1 = true :=
  (Spec.applies_iff w_frames).mpr ⟨w_running, w_runnable, w_alone, w_named, w_hears, w_ripe, w_room, w_tables⟩
theorem atStart : AtStart classFile x code maxLocals ret World_1 tables_1 room_1 Calls_1 rest_1 Pre_1 launch0 p0 e0 about1 theMethod args0 below0 :=
  ⟨lists_1, trivial, launch0.admits_env _ _ _, launch0.least_env, fairChoices_fair.cas, fairChoices_fair.clock, w_frames, w_args, w_heap, w_applies, trivial, trivial, w_case⟩
end start1
theorem witness_1 : WitnessClaimed_1 := ⟨start1.p0, start1.e0, start1.about1, start1.theMethod, start1.args0, start1.below0, start1.atStart⟩
end Jvm.Pilot.@@N@@
